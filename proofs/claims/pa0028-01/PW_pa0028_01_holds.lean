import PyProof.Rows.All
import Wide.All
import OpenK.AllK
import Wide.FinOn
import PySem.Challenge.RW_pa0028_01
open PySem PySem.W PyProof.Rows
set_option Elab.async false
set_option maxRecDepth 100000
set_option maxHeartbeats 8000000
set_option linter.unusedVariables false
set_option linter.unusedSimpArgs false
namespace Mine
open_top hd for PySem.Challenge.rw_pa0028_01
end Mine


-- part Ctx28
namespace Mine

/-- what a call gives back: R t, nothing else changed; r: the room that it wants -/
def Says (w : World) (r : Nat) (f : Addr) (pre : Prop) (vs : List Value) (kw : List (PySem.Str × Value)) (R : Tok → Value) : Prop :=
  ∀ (mean : ExcName → Option Value) (mg mb : PySem.Str → Option Value) (news : List (Addr × Obj))
    (dp un : Nat) (gd : Option (List Code)) (cn : PySem.Str) (cs : Scope) (a : Addr) (ccd : Value) (cl : List (PySem.Str × Addr)) (outer : List Env) (A₀ : Around) (base h₀ : Heap) (L : Addr) (m : PySem.Str → Option Value) (s : Shared) (Q E : Value → Shared → Prop),
    Below A₀ base outer h₀ → Fr h₀ L s.heap m → Frag.In (Mine.hd.heap_39 w.params) h₀ → News h₀ L s.heap news →
    Top Mine.hd.view_39
      (looseW Mine.hd.view_39 [Str.ofString "Error_ftplib", Str.ofString "bytes_types", Str.ofString "Error_binascii", Str.ofString "a2b_base64", Str.ofString "b2a_base64", Str.ofString "b64encode", Str.ofString "b64decode"])
      mean mg mb h₀ → cs.kind = .function →
    pre → dp + r < recursionLimit → un + 8 * r < cLine →
    (∀ (t : Tok) (h' : Heap) (tk' : Nat), Fr h₀ L h' m → News h₀ L h' news → Q (R t) { s with heap := h', toks := tk' }) →
    wpAny (model Challenge.rw_pa0028_01.row.prog w) (ktrTop dp un gd cn cs L a ccd cl outer) (call (.ref f) vs kw) Q E s

theorem Says.go {w : World} {r : Nat} {f : Addr} {pre : Prop} {vs : List Value} {kw : List (PySem.Str × Value)} {R : Tok → Value} (C : Says w r f pre vs kw R)
    {mean : ExcName → Option Value} {mg mb : PySem.Str → Option Value} {news : List (Addr × Obj)}
    {dp un : Nat} {gd : Option (List Code)} {cn : PySem.Str} {cs : Scope} {a : Addr} {ccd : Value} {cl : List (PySem.Str × Addr)} {outer : List Env} {A₀ : Around} {base h₀ : Heap} {L : Addr} {m : PySem.Str → Option Value} {s : Shared} {Q E : Value → Shared → Prop}
    (B : Below A₀ base outer h₀) (F : Fr h₀ L s.heap m) (X : Frag.In (Mine.hd.heap_39 w.params) h₀) (N : News h₀ L s.heap news)
    (T : Top Mine.hd.view_39
      (looseW Mine.hd.view_39 [Str.ofString "Error_ftplib", Str.ofString "bytes_types", Str.ofString "Error_binascii", Str.ofString "a2b_base64", Str.ofString "b2a_base64", Str.ofString "b64encode", Str.ofString "b64decode"])
      mean mg mb h₀) (hk : cs.kind = .function) (hp : pre) (hd : dp + r < recursionLimit) (hu : un + 8 * r < cLine)
    (ret : ∀ (t : Tok) (h' : Heap) (tk' : Nat), Fr h₀ L h' m → News h₀ L h' news → Q (R t) { s with heap := h', toks := tk' }) :
    wpAny (model Challenge.rw_pa0028_01.row.prog w) (ktrTop dp un gd cn cs L a ccd cl outer) (call (.ref f) vs kw) Q E s :=
  C mean mg mb news dp un gd cn cs a ccd cl outer A₀ base h₀ L m s Q E B F X N T hk hp hd hu ret

theorem ret_any {h₀ h' : Heap} {L : Addr} {m : PySem.Str → Option Value} {news : List (Addr × Obj)} {s : Shared} {Q : Value → Shared → Prop} {tk' : Nat} {R : Tok → Value} {v : Value}
    (hret : ∀ (t : Tok) (h' : Heap) (tk' : Nat), Fr h₀ L h' m → News h₀ L h' news → Q (R t) { s with heap := h', toks := tk' })
    (F : Fr h₀ L h' m) (N : News h₀ L h' news) (t : Tok) (e : v = R t) : Q v { s with heap := h', toks := tk' } := by
  subst e
  exact hret t h' tk' F N
/-- a mark at which the walk stops -/
def Stop (P : Prop) : Prop := P
theorem Stop.out {P : Prop} (h : Stop P) : P := h
end Mine


-- part R28
namespace Mine
open PySem.Builtin PySem.Builtin._codecs

theorem foldl_bytes (l : List Nat) : ∀ acc : Array UInt8, l.foldl (fun acc y => acc ++ (asciiCodec.bytesOf y).toArray) acc = acc ++ (l.map fun c => c.toUInt8).toArray := by
  induction l with
  | nil => intro acc; simp
  | cons c r ih => intro acc; rw [List.foldl_cons, ih]; simp [asciiCodec]

theorem forIn_two {β : Type} (f : Nat → β → Sem (ForInStep β)) (l : List Nat) (a b : β) (h1 : ∀ k, f k a = pure (.yield b)) (h2 : ∀ k, f k b = pure (.done b)) (hl : l ≠ []) : forIn l a f = pure b := by
  cases l with
  | nil => exact absurd rfl hl
  | cons k r =>
    rw [List.forIn_cons, h1, pure_bind]
    cases r with
    | nil => rfl
    | cons k2 r2 =>
      show forIn (k2 :: r2) b f = pure b
      rw [List.forIn_cons, h2, pure_bind]

theorem enc_ascii (id : String) (self : Value) (x : PySem.Str) (h : ∀ c ∈ x.cps, c < 128) (hz : x.length ≤ sizeLine) :
    encodeNarrow id asciiCodec none self x = pure (x.cps.map fun c => c.toUInt8) := by
  have hbad : x.cps.findIdx? asciiCodec.bad = none := by
    rw [Array.findIdx?_eq_none_iff]
    intro c hc
    have := h c hc
    simp [asciiCodec]; omega
  have hlen : x.length = x.cps.size := rfl
  have hfold : x.cps.foldl (fun acc y => acc ++ (asciiCodec.bytesOf y).toArray) #[] = x.cps.map fun c => c.toUInt8 := by
    rw [← Array.foldl_toList, foldl_bytes]
    apply Array.ext'
    simp
  unfold encodeNarrow
  dsimp only
  rw [Std.Legacy.Range.forIn_eq_forIn_range']
  by_cases h0 : x.cps.size = 0
  · have e0 : x.cps = #[] := Array.eq_empty_of_size_eq_zero h0
    simp [Std.Legacy.Range.size, hlen, e0]
  · rw [forIn_two _ _ (0, #[], ({} : Faults)) (x.cps.size, x.cps.map fun c => c.toUInt8, ({} : Faults))]
    · rw [pure_bind]
    · intro k
      have hs : (#[] : Array UInt8).size > sizeLine ↔ False := by simp
      have hpos : 0 < x.cps.size := by omega
      have hx0 : x.cps[0]? = some x.cps[0] := Array.getElem?_eq_getElem hpos
      have hb0 : asciiCodec.bad x.cps[0] = false := by
        have := h _ (Array.getElem_mem hpos)
        simp [asciiCodec]; omega
      simp only [hs, if_false, hx0, hb0, Bool.not_false, if_true, Array.extract_size, hbad, Option.getD_none, hfold, Nat.zero_add]
    · intro k
      have hs : (x.cps.map fun c => c.toUInt8).size > sizeLine ↔ False := by simp; rw [hlen] at hz; omega
      have hx0 : x.cps[x.cps.size]? = none := by simp
      simp only [hs, if_false, hx0]
    · simp [Std.Legacy.Range.size, hlen]; exact fun e => h0 (by simp [e])

theorem dec_ascii (id : String) (b : Array UInt8) (h : ∀ c ∈ b, c.toNat < 128) (hz : b.size ≤ sizeLine) :
    runDecoder id asciiDecoder none true b 0 [] = pure (b.map fun c => c.toNat, b.size) := by
  unfold runDecoder
  dsimp only
  rw [Std.Legacy.Range.forIn_eq_forIn_range']
  have key : ∀ (n p : Nat), p + n = b.size → ∀ (f : Nat → Nat × Array Nat × Faults → Sem (ForInStep (Nat × Array Nat × Faults))),
      (∀ k q, q < b.size → f k (q, (b.map fun c => c.toNat).extract 0 q, {held := []}) = pure (.yield (q + 1, (b.map fun c => c.toNat).extract 0 (q + 1), {held := []}))) →
      forIn (List.range' p n) (p, (b.map fun c => c.toNat).extract 0 p, ({held := []} : Faults)) f = pure (b.size, b.map fun c => c.toNat, ({held := []} : Faults)) := by
    intro n
    induction n with
    | zero =>
      intro p hp f _
      have : p = b.size := by omega
      subst this
      have e : (b.map fun c => c.toNat).extract 0 b.size = b.map fun c => c.toNat := by apply Array.ext'; simp [← Array.length_toList, List.take_of_length_le]
      rw [e]; rfl
    | succ n ih =>
      intro p hp f hf
      rw [List.range'_succ, List.forIn_cons, hf _ _ (by omega), pure_bind]
      exact ih (p + 1) (by omega) f hf
  simp only [Std.Legacy.Range.size, Nat.sub_zero, Nat.add_sub_cancel, Nat.div_one]
  rw [show ((0 : Nat), (#[] : Array Nat), ({} : Faults)) = (0, (b.map fun c => c.toNat).extract 0 0, ({held := []} : Faults)) from by simp]
  rw [key b.size 0 (by omega)]
  · rw [pure_bind]
  · intro k q hq
    have hs : ((b.map fun c => c.toNat).extract 0 q).size > sizeLine ↔ False := by simp; omega
    have hp : (q ≥ b.size) ↔ False := by simp; omega
    have hg : (b.getD q 0).toNat < 128 := by
      have := h _ (Array.getElem_mem hq)
      simpa [Array.getD, hq] using this
    have hf : asciiDecoder.find true b q = .text [(b.getD q 0).toNat] (q + 1) := by
      show (if (b.getD q 0).toNat < 128 then _ else _) = _
      rw [if_pos hg]; rfl
    simp only [hs, hp, if_false, hf]
    congr 4
    have : (b.getD q 0).toNat = (b.map fun c => c.toNat)[q]'(by simpa using hq) := by simp [Array.getD, hq]
    rw [this]
    apply Array.ext'
    simp [List.take_add_one, hq]

section
variable {prog : Program} {w : World} {M : Model} {A : Around} {E : Value → Shared → Prop} {s : Shared}

theorem encode_tree2 (x : PySem.Str) (t t' : Tok) : «str.encode» ⟨[.str x t, .str (PySem.Str.ofString "ascii") t'], []⟩ = (encodeRoad "str.encode" (.str x t) x (PySem.Str.ofString "ascii") none >>= fun v => ret v) := by kernel_rfl
theorem road_ascii (id : String) (self : Value) (x : PySem.Str) : encodeRoad id self x (PySem.Str.ofString "ascii") none = (encodeNarrow id asciiCodec none self x >>= fun b => mkBytes b) := by kernel_rfl

theorem call_encode {x : PySem.Str} {t t' : Tok} {Q : Value → Shared → Prop} (h : ∀ c ∈ x.cps, c < 128) (hz : x.length ≤ sizeLine)
    (hq : ∀ u k, Q (.bytes (x.cps.map fun c => c.toUInt8) u) { s with toks := k }) :
    wpAny (model prog w) A (call (.builtin "str.encode") [.str x t, .str (PySem.Str.ofString "ascii") t']) Q E s := by
  refine call_meets F.slot_str_encode (typeIs_str _ _ _) F.entry_str_encode (F.args_str_encode_2 _ _) (S := fun _ R s => ∀ u k, R (.ok (.ret (.bytes (x.cps.map fun c => c.toUInt8) u))) { s with toks := k }) (.of_wp fun prog w A R s hS => ?_) hq
  rw [encode_tree2, road_ascii, enc_ascii _ _ _ h hz, pure_bind]
  exact wpAny_bind (wpAny_mkBytes (wpAny_pure ⟨_, rfl, hS _ _⟩) (by rw [Array.size_map]; exact hz))
theorem method_encode {x : PySem.Str} {t : Tok} {pl : Sem Bool} {Q : Value × List Value → Shared → Prop} (h : Q (.builtin "str.encode", [.str x t]) s) : wpAny M A (getMethod (.str x t) (PySem.Str.ofString "encode") pl) Q E s :=
  by with_reducible exact GM.of (.str x t) (typeIs_str _ _ _) F.slot_str_encode F.type_str_encode GM.noRef h

theorem args_decode2 (a b : Value) : argsOk "bytes.decode" ⟨[a, b], []⟩ := by
  unfold argsOk; rw [signature?_of (id := "bytes.decode") (n := ['e', 'd', 'o', 'c', 'e', 'd']) (o := ['s', 'e', 't', 'y', 'b']) (by kernel_rfl) FB.owner_bytes]; kernel_rfl
theorem droad_ascii {id : String} {b : Array UInt8} : decodeRoad id b (PySem.Str.ofString "ascii") none [] = (runDecoder id asciiDecoder none true b 0 [] >>= fun r => mkStr ⟨r.1⟩) := by kernel_rfl
theorem dmeets_text {b : Array UInt8} {t t1 t2 : Tok} {d : PySem.Str} (h : ∀ c ∈ b, c.toNat < 128) (hz : b.size ≤ sizeLine) :
    Meets («_codecs.decode.text» ⟨[.bytes b t, .str (PySem.Str.ofString "ascii") t1, .none, .str d t2], []⟩) (fun _ R s => R (.ok (.ret (.str ⟨b.map fun c => c.toNat⟩ s.toks))) { s with toks := s.toks + 1 }) := by
  refine .of_wp fun prog w A R s hS => ?_
  show wpAny _ _ (Bytes.bytesLike _ (.bytes b t) >>= fun r => _) _ _ s
  refine wpAny_bind (wpAny_of_eq KBd.like_eq ?_)
  refine wpAny_bind (wpAny_of_eq KBd.held_eq ?_)
  show wpAny _ _ (decodeRoad _ b (PySem.Str.ofString "ascii") none [] >>= fun v => _) _ _ s
  rw [droad_ascii, dec_ascii _ _ h hz]
  refine wpAny_bind (wpAny_bind (wpAny_pure ?_))
  exact wpAny_mkStr (wpAny_pure ⟨_, rfl, hS⟩) (by show (b.map fun c => c.toNat).size ≤ _; simpa using hz)
theorem dentry_eq {c : UInt8} {cs : List UInt8} {t t' : Tok} : «bytes.decode» ⟨[.bytes (c :: cs).toArray t, .str (PySem.Str.ofString "ascii") t'], []⟩ = (mkStr (PySem.Str.ofString "utf-8") >>= fun _ => mkStr (PySem.Str.ofString "ascii") >>= fun e => mkStr (PySem.Str.ofString "bytes.decode") >>= fun d =>
    call (.builtin "_codecs.decode.text") [.bytes (c :: cs).toArray t, e, .none, d] >>= fun v => ret v) := by kernel_rfl
theorem call_decode {b : Array UInt8} {t t' : Tok} {Q : Value → Shared → Prop} (hn : b.size ≠ 0) (h : ∀ c ∈ b, c.toNat < 128) (hz : b.size ≤ sizeLine) (hq : ∀ u k, Q (.str ⟨b.map fun c => c.toNat⟩ u) { s with toks := k }) :
    wpAny (model prog w) A (call (.builtin "bytes.decode") [.bytes b t, .str (PySem.Str.ofString "ascii") t']) Q E s := by
  refine call_meets FB.slot_bytes_decode (typeIs_bytes _ _ _) FB.entry_bytes_decode (args_decode2 _ _) (S := fun _ R s => ∀ u k, R (.ok (.ret (.str ⟨b.map fun c => c.toNat⟩ u))) { s with toks := k }) (.of_wp fun prog w A R s hS => ?_) hq
  obtain ⟨l⟩ := b
  cases l with
  | nil => exact absurd rfl hn
  | cons c cs =>
    rw [dentry_eq]
    refine wpAny_bind (wpAny_mkStr ?_ (by decide))
    refine wpAny_bind (wpAny_mkStr ?_ (by decide))
    refine wpAny_bind (wpAny_mkStr ?_ (by decide))
    exact wpAny_bind (call_function_meets KBd.kind_text KBd.plain_text KBd.entry_text (KBd.args_text _ _ _ _) (dmeets_text h hz) (wpAny_pure ⟨_, rfl, hS _ _⟩))

theorem slot_translate : Slot "bytes" "translate" "bytes.translate" :=
  .of (owner := "bytes") (n := "translate") (by rw [typeLookup_type, builtinLookup_eq_fast]; kernel_rfl) (by decide +kernel) (by decide +kernel) (by decide +kernel)
    (by first | exact .inl (by decide +kernel) | exact .inr (by decide +kernel)) (by rw [isSubtype_type]; kernel_rfl)
theorem type_translate : typeOf (.builtin "bytes.translate") = pure (.type "method_descriptor") := by show builtinType _ = _; rw [builtinType_eq_fast]; kernel_rfl
theorem entry_translate : entryFor table "bytes.translate" = some Builtin.«bytes.translate» := entryFor_of_tree (by kernel_rfl)
theorem args_translate (a b : Value) : argsOk "bytes.translate" ⟨[a, b], []⟩ := by
  unfold argsOk; rw [signature?_of (id := "bytes.translate") (n := "translate".toList.reverse) (o := ['s', 'e', 't', 'y', 'b']) (by kernel_rfl) FB.owner_bytes]; kernel_rfl
theorem method_translate {b : Array UInt8} {t : Tok} {pl : Sem Bool} {Q : Value × List Value → Shared → Prop} (h : Q (.builtin "bytes.translate", [.bytes b t]) s) : wpAny M A (getMethod (.bytes b t) (PySem.Str.ofString "translate") pl) Q E s :=
  by with_reducible exact KBd.method_of (.bytes b t) (typeIs_bytes _ _ _) slot_translate type_translate KBd.noRef h

def trMap (tab b : Array UInt8) : Array UInt8 := b.map fun c => tab.getD c.toNat c
theorem same_eq {b : Array UInt8} {t : Tok} : Bytes.Kind.same .bytes (.bytes b t) = pure (.bytes b t) := by first | rfl | kernel_rfl
end
end Mine


-- part R29
namespace Mine
open PySem.Builtin PySem.Builtin._codecs
section
variable {prog : Program} {w : World} {M : Model} {A : Around} {E : Value → Shared → Prop} {s : Shared}
theorem call_translate {b tab : Array UInt8} {t t' : Tok} {Q : Value → Shared → Prop} (h256 : tab.size = 256) (hz : b.size ≤ sizeLine) (hq : ∀ u k, Q (.bytes (trMap tab b) u) { s with toks := k }) :
    wpAny (model prog w) A (call (.builtin "bytes.translate") [.bytes b t, .bytes tab t']) Q E s := by
  refine call_meets slot_translate (typeIs_bytes _ _ _) entry_translate (args_translate _ _) (S := fun _ R s => ∀ u k, R (.ok (.ret (.bytes (trMap tab b) u))) { s with toks := k }) (.of_wp fun prog w A R s hS => ?_) hq
  have hn : (Value.bytes tab t' == Value.none) = false := by rfl
  have hf : ∀ a : Array UInt8, a.filter (fun x => !(#[] : Array UInt8).contains x) = a := by intro a; simp
  unfold Builtin.«bytes.translate» Bytes.translateM
  dsimp only
  rw [if_neg (by simp)]
  rw [if_neg (by simp)]
  rw [hn, if_neg (by decide)]
  rw [KBd.like_eq, pure_bind]
  rw [h256, if_neg (by decide)]
  rw [pure_bind]
  show wpAny _ _ (pure #[] >>= fun delete => _) _ _ _
  rw [pure_bind]
  show wpAny _ _ (pure b >>= fun b' => _) _ _ _
  rw [pure_bind]
  dsimp only
  rw [hf]
  by_cases he : (trMap tab b == b) = true
  · have he' : (Array.map (fun c => tab.getD c.toNat c) b == b) = true := he
    rw [if_pos he']
    refine wpAny_bind (wpAny_rule ?_)
    rw [same_eq]
    refine wpAny_bind (wpAny_pure (wpAny_pure ⟨_, rfl, ?_⟩))
    have e2 : trMap tab b = b := eq_of_beq he
    have := hS t s.toks
    rw [e2] at this
    exact this
  · have he' : ¬ (Array.map (fun c => tab.getD c.toNat c) b == b) = true := he
    rw [if_neg he']
    exact wpAny_bind (wpAny_mkBytes (wpAny_pure ⟨_, rfl, hS _ _⟩) (by rw [Array.size_map]; exact hz))

/-- what maketrans makes -/
def mkTab (f t : List UInt8) : Array UInt8 := (f.zip t).foldl (fun t (f, x) => t.setIfInBounds f.toNat x) ((Array.range 256).map (·.toUInt8))
theorem tab_size (f t : List UInt8) : (mkTab f t).size = 256 := by
  unfold mkTab
  have : ∀ (l : List (UInt8 × UInt8)) (a : Array UInt8), (l.foldl (fun t (x : UInt8 × UInt8) => t.setIfInBounds x.1.toNat x.2) a).size = a.size := by
    intro l
    induction l with
    | nil => intro a; rfl
    | cons p r ih => intro a; rw [List.foldl_cons, ih]; simp
  rw [this]; simp

theorem check_mt (a b : Value) : checkBuiltinCall "bytes.maketrans" ⟨[a, b], []⟩ = pure () := by kernel_rfl
theorem plain_mt : plainId "bytes.maketrans" = true := by decide +kernel
theorem entry_mt : entryFor table "bytes.maketrans" = some Builtin.«bytes.maketrans» := entryFor_of_tree (by kernel_rfl)
theorem call_maketrans {f g : Array UInt8} {t t' : Tok} {Q : Value → Shared → Prop} (hl : f.size = g.size) (hq : ∀ u k, Q (.bytes (mkTab f.toList g.toList) u) { s with toks := k }) :
    wpAny (model prog w) A (call (.builtin "bytes.maketrans") [.bytes f t, .bytes g t']) Q E s := by
  refine wpAny_call (codeAny_call_builtin plain_mt entry_mt ?_)
  rw [check_mt]
  refine wpAny_pure ?_
  refine wpAny_mono (Q := fun fin s' => ∃ u k, fin = .done (.ret (.bytes (mkTab f.toList g.toList) u)) ∧ s' = { s with toks := k }) (E := fun _ _ => False) ?_ (by rintro fin s' ⟨u, k, rfl, rfl⟩; exact hq u k) (fun _ _ h => h.elim)
  unfold Builtin.«bytes.maketrans» Bytes.maketransM
  dsimp only
  show wpAny _ _ (pure () >>= fun _ => _) _ _ _
  rw [pure_bind]
  show wpAny _ _ (pure () >>= fun _ => _) _ _ _
  rw [pure_bind]
  show wpAny _ _ (Bytes.bytesLike _ (.bytes f t) >>= fun _ => Bytes.bytesLike _ (.bytes g t') >>= fun _ => _) _ _ _
  rw [KBd.like_eq, pure_bind, KBd.like_eq, pure_bind]
  have hb : (f.size != g.size) = false := by simp [hl]
  rw [hb, if_neg (by decide)]
  exact wpAny_bind (wpAny_mkBytes (wpAny_pure ⟨_, _, rfl, rfl⟩) (by show (mkTab _ _).size ≤ _; rw [tab_size]; decide))
end
end Mine


-- part B1
namespace Mine

def b64v (c : Int) : Int :=
  if 65 ≤ c ∧ c ≤ 90 then c - 65 else if 97 ≤ c ∧ c ≤ 122 then c - 71 else if 48 ≤ c ∧ c ≤ 57 then c + 4 else if c = 43 then 62 else if c = 47 then 63 else 64

theorem b64_value (w : World) (c : Int) (t : Tok) : Says w 1 102 (0 ≤ c ∧ c < 256) [.int c t] [] (fun t => .int (b64v c) t) := by
  unfold Says
  k_fill
  k_with_none
  w_top off
  intros
  rename_i hret
  refine wpAny_call ?_
  k_dflt cell_enter
  k_with "tree" => simp only [b64v]
  k_steps
  all_goals cb_end hret

theorem truth_b (w : World) (b : Bool) : Says w 1 95 True [.bool b] [] (fun _ => .bool b) := by
  unfold Says
  k_fill
  k_with_none
  w_top off
  intros
  rename_i hret
  refine wpAny_call ?_
  k_dflt cell_enter
  k_steps
  all_goals cb_end hret

theorem buffer_b (w : World) (b : Array UInt8) (t : Tok) : Says w 1 88 True [.bytes b t] [] (fun t => .bytes b t) := by
  unfold Says
  k_fill
  k_with_none
  w_top off
  intros
  rename_i hret
  refine wpAny_call ?_
  k_dflt cell_enter
  k_with "call type:type" => (k_here; k_dflt (refine call_type_of (Tx := "bytes") (by rfl) (by decide +kernel) ?_))
  k_steps
  all_goals (refine ret_any hret ?_ ?_ _ rfl <;> k_asm)

theorem ascii_buffer_b (w : World) (b : Array UInt8) (t : Tok) : Says w 1 81 True [.bytes b t] [] (fun t => .bytes b t) := by
  unfold Says
  k_fill
  k_with_none
  w_top off
  intros
  rename_i hret
  refine wpAny_call ?_
  k_dflt cell_enter
  k_with "call type:type" => (k_here; k_dflt (refine call_type_of (Tx := "bytes") (by rfl) (by decide +kernel) ?_))
  k_steps
  all_goals (refine ret_any hret ?_ ?_ _ rfl <;> k_asm)

theorem bytes_from_s (w : World) (x : PySem.Str) (t : Tok) : Says w 2 61 ((∀ c ∈ x.cps, c < 128) ∧ x.length ≤ sizeLine) [.str x t] [] (fun t => .bytes (x.cps.map fun c => c.toUInt8) t) := by
  unfold Says
  k_fill
  k_with_none
  w_top off
  intros
  rename_i hpre _ _ hret
  refine wpAny_call ?_
  k_dflt cell_enter
  k_with "getMethod str" => (k_here; with_reducible refine method_encode ?_)
  k_with "call builtin:str.encode" => (k_here; refine call_encode hpre.1 hpre.2 ?_; intro _ _)
  k_steps
  all_goals first | (refine ret_any hret ?_ ?_ _ rfl <;> k_asm) | w_report

theorem bytes_from_b (w : World) (b : Array UInt8) (t : Tok) : Says w 2 61 True [.bytes b t] [] (fun t => .bytes b t) := by
  unfold Says
  k_fill
  k_with_none
  w_top off
  intros
  rename_i hret
  refine wpAny_call ?_
  k_dflt cell_enter
  k_steps
  all_goals first | (refine ret_any hret ?_ ?_ _ rfl <;> k_asm) | w_report
end Mine


-- part M28
namespace Mine

/-! bits -/
theorem bitOr_nat {x y : Int} (hx : 0 ≤ x) (hy : 0 ≤ y) : Builtin.bitOr x y = ((x.toNat ||| y.toNat : Nat) : Int) := by
  have n1 : ∀ z : Int, Builtin.bitNot z = -z - 1 := fun _ => rfl
  unfold Builtin.bitOr Builtin.bitAnd
  have e1 : decide (0 ≤ Builtin.bitNot x) = false := by rw [n1]; exact decide_eq_false (by omega)
  have e2 : decide (0 ≤ Builtin.bitNot y) = false := by rw [n1]; exact decide_eq_false (by omega)
  rw [e1, e2]
  simp only [n1]
  have e3 : - -x = x := by omega
  have : (-(-x - 1) - 1) = x := by omega
  have : (-(-y - 1) - 1) = y := by omega
  simp only [*]
  omega

theorem bitOr_add {a b : Int} (k : Nat) (ha : 0 ≤ a) (hb : 0 ≤ b) (h : b < 2 ^ k) : Builtin.bitOr (a * 2 ^ k) b = a * 2 ^ k + b := by
  obtain ⟨a, rfl⟩ := Int.eq_ofNat_of_zero_le ha
  obtain ⟨b, rfl⟩ := Int.eq_ofNat_of_zero_le hb
  have h' : b < 2 ^ k := by exact_mod_cast h
  have e : ((a : Int) * 2 ^ k) = ((a * 2 ^ k : Nat) : Int) := by push_cast; rfl
  rw [e, bitOr_nat (by omega) (by omega)]
  have := Nat.shiftLeft_add_eq_or_of_lt h' a
  rw [Nat.shiftLeft_eq] at this
  simp only [Int.toNat_natCast]
  rw [← this]
  push_cast; rfl

/-! decoding -/
def decStep (p : Int × Int × List Int) (v : Int) : Int × Int × List Int :=
  if p.1 = 0 then (1, v, p.2.2)
  else if p.1 = 1 then (2, v % 16, p.2.2 ++ [p.2.1 * 4 + v / 16])
  else if p.1 = 2 then (3, v % 4, p.2.2 ++ [p.2.1 * 16 + v / 4])
  else (0, 0, p.2.2 ++ [p.2.1 * 64 + v])

def octs : List Int → List Int
  | a :: b :: c :: d :: r => (a * 4 + b / 16) :: (b % 16 * 16 + c / 4) :: (c % 4 * 64 + d) :: octs r
  | _ => []

theorem fours {P : List Int → Prop} (h0 : P []) (h4 : ∀ a b c d r, r.length % 4 = 0 → P r → P (a :: b :: c :: d :: r)) : ∀ l : List Int, l.length % 4 = 0 → P l
  | [], _ => h0
  | [_], h => by simp at h
  | [_, _], h => by simp at h
  | [_, _, _], h => by simp at h
  | a :: b :: c :: d :: r, h => h4 a b c d r (by simp at h; omega) (fours h0 h4 r (by simp at h; omega))

theorem dec_all (vs : List Int) (h : vs.length % 4 = 0) : ∀ o, vs.foldl decStep (0, 0, o) = (0, 0, o ++ octs vs) := by
  refine fours (P := fun vs => ∀ o, vs.foldl decStep (0, 0, o) = (0, 0, o ++ octs vs)) ?_ ?_ vs h
  · intro o; simp [octs]
  · intro a b c d r _ ih o
    simp only [List.foldl_cons]
    have e : decStep (decStep (decStep (decStep (0, 0, o) a) b) c) d = (0, 0, o ++ [a * 4 + b / 16] ++ [b % 16 * 16 + c / 4] ++ [c % 4 * 64 + d]) := by simp [decStep]
    rw [e, ih, octs]
    simp

theorem octs_range (vs : List Int) (h : vs.length % 4 = 0) : (∀ v ∈ vs, 0 ≤ v ∧ v < 64) → ∀ x ∈ octs vs, 0 ≤ x ∧ x < 256 := by
  refine fours (P := fun vs => (∀ v ∈ vs, 0 ≤ v ∧ v < 64) → ∀ x ∈ octs vs, 0 ≤ x ∧ x < 256) ?_ ?_ vs h
  · intro _ x hx; simp [octs] at hx
  · intro a b c d r _ ih hv x hx
    have ha := hv a (by simp)
    have hb := hv b (by simp)
    have hc := hv c (by simp)
    have hd := hv d (by simp)
    simp only [octs, List.mem_cons] at hx
    rcases hx with rfl | rfl | rfl | hx
    · omega
    · omega
    · omega
    · exact ih (fun v hm => hv v (by simp [hm])) x hx

theorem octs_length (vs : List Int) (h : vs.length % 4 = 0) : (octs vs).length = vs.length / 4 * 3 := by
  refine fours (P := fun vs => (octs vs).length = vs.length / 4 * 3) ?_ ?_ vs h
  · rfl
  · intro a b c d r _ ih
    simp only [octs, List.length_cons, ih]; omega

/-! encoding: the state is (leftbits, leftchar, out) -/
def encStep (g : Int → Int) (p : Int × Int × List Int) (b : Int) : Int × Int × List Int :=
  let c := (p.2.1 * 256 + b) % 65536
  if p.1 = 0 then (2, c, p.2.2 ++ [g (c / 4 % 64)])
  else if p.1 = 2 then (4, c, p.2.2 ++ [g (c / 16 % 64)])
  else (0, c, p.2.2 ++ [g (c / 64 % 64)] ++ [g (c % 64)])

theorem enc0 (g : Int → Int) (o : List Int) {l x : Int} (hl : 0 ≤ l) (h0 : 0 ≤ x) (h1 : x < 256) : encStep g (0, l, o) x = (2, (l * 256 + x) % 65536, o ++ [g (x / 4)]) := by
  have e : (l * 256 + x) % 65536 / 4 % 64 = x / 4 := by omega
  simp [encStep, e]
theorem enc2 (g : Int → Int) (o : List Int) {l x : Int} (hl : 0 ≤ l) (h0 : 0 ≤ x) (h1 : x < 256) : encStep g (2, l, o) x = (4, (l * 256 + x) % 65536, o ++ [g (l % 4 * 16 + x / 16)]) := by
  have e : (l * 256 + x) % 65536 / 16 % 64 = l % 4 * 16 + x / 16 := by omega
  simp [encStep, e]
theorem enc4 (g : Int → Int) (o : List Int) {l x : Int} (hl : 0 ≤ l) (h0 : 0 ≤ x) (h1 : x < 256) : encStep g (4, l, o) x = (0, (l * 256 + x) % 65536, o ++ [g (l % 16 * 4 + x / 64)] ++ [g (x % 64)]) := by
  have e : (l * 256 + x) % 65536 / 64 % 64 = l % 16 * 4 + x / 64 := by omega
  have e2 : (l * 256 + x) % 65536 % 64 = x % 64 := by omega
  simp [encStep, e, e2]

theorem enc_all (g : Int → Int) (vs : List Int) (h : vs.length % 4 = 0) : (∀ v ∈ vs, 0 ≤ v ∧ v < 64) → ∀ l o, 0 ≤ l → ∃ l', 0 ≤ l' ∧ (octs vs).foldl (encStep g) (0, l, o) = (0, l', o ++ vs.map g) := by
  refine fours (P := fun vs => (∀ v ∈ vs, 0 ≤ v ∧ v < 64) → ∀ l o, 0 ≤ l → ∃ l', 0 ≤ l' ∧ (octs vs).foldl (encStep g) (0, l, o) = (0, l', o ++ vs.map g)) ?_ ?_ vs h
  · intro _ l o hl; exact ⟨l, hl, by simp [octs]⟩
  · intro a b c d r _ ih hv l o hl
    have ha := hv a (by simp)
    have hb := hv b (by simp)
    have hc := hv c (by simp)
    have hd := hv d (by simp)
    simp only [octs, List.foldl_cons]
    have e : ∃ l', 0 ≤ l' ∧ encStep g (encStep g (encStep g (0, l, o) (a * 4 + b / 16)) (b % 16 * 16 + c / 4)) (c % 4 * 64 + d) = (0, l', o ++ [g a] ++ [g b] ++ [g c] ++ [g d]) := by
      rw [enc0 g o hl (by omega) (by omega)]
      generalize h1 : (l * 256 + (a * 4 + b / 16)) % 65536 = l1
      rw [enc2 g _ (by omega) (by omega) (by omega)]
      generalize h2 : (l1 * 256 + (b % 16 * 16 + c / 4)) % 65536 = l2
      rw [enc4 g _ (by omega) (by omega) (by omega)]
      refine ⟨(l2 * 256 + (c % 4 * 64 + d)) % 65536, by omega, ?_⟩
      have e1 : (a * 4 + b / 16) / 4 = a := by omega
      have e2 : l1 % 4 * 16 + (b % 16 * 16 + c / 4) / 16 = b := by omega
      have e3 : l2 % 16 * 4 + (c % 4 * 64 + d) / 64 = c := by omega
      have e4 : (c % 4 * 64 + d) % 64 = d := by omega
      rw [e1, e2, e3, e4]
    obtain ⟨l', hl', e⟩ := e
    obtain ⟨l2, h2, e2⟩ := ih (fun v hm => hv v (by simp [hm])) l' (o ++ [g a] ++ [g b] ++ [g c] ++ [g d]) hl'
    refine ⟨l2, h2, ?_⟩
    rw [e, e2]
    simp
end Mine


-- part B3
namespace Mine

theorem b64v_ne {n : Int} (h : b64v n < 64) : n ≠ 61 := by rintro rfl; revert h; decide
theorem b64v_nonneg (n : Int) : 0 ≤ b64v n := by unfold b64v; repeat' split; all_goals omega

def DecInv (pre out : List Int) (q l : Int) : Prop := (pre.map b64v).foldl decStep (0, 0, []) = (q, l, out)
theorem dec_snoc {pre out : List Int} {q l n : Int} (h : DecInv pre out q l) : (((pre ++ [n]).map b64v).foldl decStep (0, 0, [])) = decStep (q, l, out) (b64v n) := by
  unfold DecInv at h
  rw [List.map_append, List.foldl_append, h]; rfl
theorem dec_w0 {pre out : List Int} {l n : Int} (h : DecInv pre out 0 l) : DecInv (pre ++ [n]) out 1 (b64v n) := by
  unfold DecInv; rw [dec_snoc h]; simp [decStep]
theorem dec_w1 {pre out : List Int} {l n : Int} (h : DecInv pre out 1 l) (hl : 0 ≤ l) (hv : b64v n < 64) : DecInv (pre ++ [n]) (out ++ [Builtin.bitOr (l * 2 ^ Int.toNat 2) ((b64v n).fdiv (2 ^ Int.toNat 4))]) 2 (Builtin.bitAnd (b64v n) 15) := by
  have h0 := b64v_nonneg n
  have e : (b64v n).fdiv (2 ^ Int.toNat 4) = b64v n / 16 := by rw [Int.fdiv_eq_ediv_of_nonneg _ (by decide)]; rfl
  unfold DecInv
  rw [dec_snoc h, e, bitAnd_m4, show Int.toNat 2 = 2 from rfl, bitOr_add 2 hl (by omega) (by show b64v n / 16 < 4; omega)]
  simp [decStep]
theorem dec_w2 {pre out : List Int} {l n : Int} (h : DecInv pre out 2 l) (hl : 0 ≤ l) (hv : b64v n < 64) : DecInv (pre ++ [n]) (out ++ [Builtin.bitOr (l * 2 ^ Int.toNat 4) ((b64v n).fdiv (2 ^ Int.toNat 2))]) 3 (Builtin.bitAnd (b64v n) 3) := by
  have h0 := b64v_nonneg n
  have e : (b64v n).fdiv (2 ^ Int.toNat 2) = b64v n / 4 := by rw [Int.fdiv_eq_ediv_of_nonneg _ (by decide)]; rfl
  unfold DecInv
  rw [dec_snoc h, e, bitAnd_m2, show Int.toNat 4 = 4 from rfl, bitOr_add 4 hl (by omega) (by show b64v n / 4 < 16; omega)]
  simp [decStep]
theorem dec_w3 {pre out : List Int} {l n : Int} (h : DecInv pre out 3 l) (hl : 0 ≤ l) (hv : b64v n < 64) : DecInv (pre ++ [n]) (out ++ [Builtin.bitOr (l * 2 ^ Int.toNat 6) (b64v n)]) 0 0 := by
  have h0 := b64v_nonneg n
  unfold DecInv
  rw [dec_snoc h, show Int.toNat 6 = 6 from rfl, bitOr_add 6 hl (by omega) (by show b64v n < 64; omega)]
  simp [decStep]
theorem dec_done {ks out : List Int} {q l : Int} (h : DecInv ks out q l) (h4 : ks.length % 4 = 0) : q = 0 ∧ l = 0 ∧ out = octs (ks.map b64v) := by
  unfold DecInv at h
  rw [dec_all _ (by simpa using h4)] at h
  simp only [Prod.mk.injEq, List.nil_append] at h
  exact ⟨h.1.symm, h.2.1.symm, h.2.2.symm⟩
theorem dec_in {ks : List Int} (h4 : ks.length % 4 = 0) (h : ∀ n ∈ ks, b64v n < 64) : ∀ x ∈ octs (ks.map b64v), 0 ≤ x ∧ x < 256 :=
  octs_range _ (by simpa using h4) fun v hv => by
    obtain ⟨n, hn, rfl⟩ := List.mem_map.mp hv
    exact ⟨b64v_nonneg n, h n hn⟩
theorem dec_len {ks : List Int} (h4 : ks.length % 4 = 0) : (octs (ks.map b64v)).length ≤ ks.length := by
  rw [octs_length _ (by simpa using h4), List.length_map]; omega
theorem and15 (v : Int) : 0 ≤ Builtin.bitAnd v 15 ∧ Builtin.bitAnd v 15 < 64 := by rw [bitAnd_m4]; omega
theorem and3 (v : Int) : 0 ≤ Builtin.bitAnd v 3 ∧ Builtin.bitAnd v 3 < 64 := by rw [bitAnd_m2]; omega

theorem a2b (w : World) (b : Array UInt8) (t : Tok) : Says w 3 110 ((∀ n ∈ b.toList.map (fun c => (c.toNat : Int)), b64v n < 64) ∧ b.size % 4 = 0 ∧ b.size ≤ 4096) [.bytes b t] [(PySem.Str.ofString "strict_mode", .bool false)] (fun t => .bytes (byteArr (octs ((b.toList.map (fun c => (c.toNat : Int))).map b64v))) t) := by
  unfold Says
  k_fill
  k_with_none
  w_top off
  intros
  rename_i hpre _ _ hret
  refine wpAny_call ?_
  k_dflt cell_enter
  obtain ⟨hp1, hp4, hp2⟩ := hpre
  k_with "call ref" => (k_here; k_dflt (refine' Says.go (ascii_buffer_b w _ _) ?k1 ?k2 ?k3 ?k4 ?k5 ?kK ?kp ?kd ?ku ?_; (case k1 => k_asm); (case k2 => k_asm); (case k3 => k_asm); (case k4 => k_asm); (case k5 => k_asm); (case kK => exact rfl); (case kp => trivial); (case kd => ktr_room); (case ku => ktr_units); intro t9 h9 tk9 F9 N9; (try dsimp only); (try k_fold)))
  k_with "call ref" => (k_here; k_dflt (refine' Says.go (truth_b w _) ?k1 ?k2 ?k3 ?k4 ?k5 ?kK ?kp ?kd ?ku ?_; (case k1 => k_asm); (case k2 => k_asm); (case k3 => k_asm); (case k4 => k_asm); (case k5 => k_asm); (case kK => exact rfl); (case kp => trivial); (case kd => ktr_room); (case ku => ktr_units); intro t9 h9 tk9 F9 N9; (try dsimp only); (try k_fold)))
  k_with "call ref" => (k_here; k_dflt (refine' Says.go (b64_value w _ _) ?k1 ?k2 ?k3 ?k4 ?k5 ?kK ?kp ?kd ?ku ?_; (case k1 => k_asm); (case k2 => k_asm); (case k3 => k_asm); (case k4 => k_asm); (case k5 => k_asm); (case kK => exact rfl); (case kp => omega); (case kd => ktr_room); (case ku => ktr_units); intro t9 h9 tk9 F9 N9; (try dsimp only); (try k_fold)))

  k_with "pyIter bytes" => fail
  k_steps
  rename News _ _ _ _ => lN
  rename Fr _ _ _ _ => lF
  k_here
  refine' KStb.kst_bytes (σ := List Value × List Int × Nat × Int × Nat × Int × Nat × Int × Nat × Int × Nat)
    (fun c => (_, W.listOf c.1.toArray c.2.2.1) :: _)
    (fun c => [(PySem.Str.ofString "quad_pos", .int c.2.2.2.1 c.2.2.2.2.1), (PySem.Str.ofString "leftchar", .int c.2.2.2.2.2.1 c.2.2.2.2.2.2.1), (PySem.Str.ofString "pads", .int c.2.2.2.2.2.2.2.1 c.2.2.2.2.2.2.2.2.1), (PySem.Str.ofString "i", .int c.2.2.2.2.2.2.2.2.2.1 c.2.2.2.2.2.2.2.2.2.2)])
    (fun c => IntsAre c.1 c.2.1) [PySem.Str.ofString "this_ch"]
    (fun pre c => DecInv pre c.2.1 c.2.2.2.1 c.2.2.2.2.2.1 ∧ c.2.1.length ≤ pre.length ∧ c.2.2.2.2.2.2.2.1 = 0 ∧ 0 ≤ c.2.2.2.1 ∧ c.2.2.2.1 ≤ 3 ∧ 0 ≤ c.2.2.2.2.2.1 ∧ c.2.2.2.2.2.1 < 64 ∧ c.2.2.2.2.2.2.2.2.2.1 = pre.length)
    (([], [], 0, 0, _, 0, _, 0, _, 0, _)) rfl rfl rfl lF lN IntsAre.nil ?kk ⟨rfl, Nat.le_refl 0, rfl, Int.le_refl 0, (show (0:Int) ≤ 3 by decide), Int.le_refl 0, (show (0:Int) < 64 by decide), rfl⟩ ?_ ?_
  case kk => kst_all
  · clear lF lN
    rintro ⟨vs, out, ep, q, tq, l, tl, pads, tp, i, ti⟩ kPre kPost kN kT kU kH kTk kOwn kEq kLen kLo kHi kOff kFacts kInv kFr kNews
    have kMark := kstMark
    dsimp only [kstB] at kFr
    dsimp only at kNews kFacts kInv
    simp only [List.cons_append] at kNews
    simp only [List.map_cons] at kOff
    obtain ⟨i1, i2, i3, i4, i5, i6, i7, i8⟩ := kInv
    have kLn := IntsAre.length kFacts
    try k_fold
    have hv : b64v kN < 64 := hp1 _ (by rw [show b.toList.map (fun c => (c.toNat : Int)) = _ from kEq]; simp)
    have hv0 := b64v_nonneg kN
    have h61a : decide (kN = 61) = false := decide_eq_false (b64v_ne hv)
    have hv1 : decide (b64v kN ≥ 64) = false := decide_eq_false (by omega)
    have kLen2 : kPre.length < b.size := by rw [KBw.ints_length] at kLen; exact kLen
    have hsz : vs.length ≤ 4095 := by rw [kLn]; omega
    subst i3 i8
    obtain rfl | rfl | rfl | rfl : q = 0 ∨ q = 1 ∨ q = 2 ∨ q = 3 := by omega
    · k_with "state" => exact ⟨dec_w0 i1, by simp; omega, rfl, by decide, by decide, hv0, hv, by simp⟩
      k_steps
    · k_with "state" => exact ⟨dec_w1 i1 i6 hv, by simp; omega, rfl, by decide, by decide, (and15 _).1, (and15 _).2, by simp⟩
      k_steps
    · k_with "state" => exact ⟨dec_w2 i1 i6 hv, by simp; omega, rfl, by decide, by decide, (and3 _).1, (and3 _).2, by simp⟩
      k_steps
    · k_with "state" => exact ⟨dec_w3 i1 i6 hv, by simp; omega, rfl, by decide, by decide, by decide, by decide, by simp⟩
      k_steps
  · clear lF lN
    rintro ⟨vs, out, ep, q, tq, l, tl, pads, tp, i, ti⟩ kU kH kTk kLen kFacts kInv kFr kNews
    have kMark := kstMark
    dsimp only [kstB] at kFr
    dsimp only at kNews kFacts kInv
    obtain ⟨i1, i2, i3, i4, i5, i6, i7, i8⟩ := kInv
    have kLn := IntsAre.length kFacts
    have k4 : (b.toList.map (fun c => (c.toNat : Int))).length % 4 = 0 := by simpa using hp4
    obtain ⟨rfl, rfl, rfl⟩ := dec_done i1 k4
    have hin := dec_in k4 hp1
    have hln : (octs ((b.toList.map (fun c => (c.toNat : Int))).map b64v)).length ≤ 4096 := Nat.le_trans (dec_len k4) (by simpa using hp2)
    have hvl : vs.length ≤ 4096 := by rw [kLn]; exact hln
    try k_fold
    k_steps
    all_goals first | (refine ret_any hret ?e2 ?e3 _ rfl; (case e2 => k_asm); (case e3 => first | k_asm | (refine' cb_drop ?cbN ?cbS; (case cbN => assumption); (case cbS => first | kcj_all | (intro p hp; simp [hp]))))) | w_report

end Mine


-- part B4
namespace Mine

def b64c : List Int := [65,66,67,68,69,70,71,72,73,74,75,76,77,78,79,80,81,82,83,84,85,86,87,88,89,90,97,98,99,100,101,102,103,104,105,106,107,108,109,110,111,112,113,114,115,116,117,118,119,120,121,122,48,49,50,51,52,53,54,55,56,57,43,47]
def g64 (v : Int) : Int := b64c.getD v.toNat 0
def EncInv (pre out : List Int) (q l : Int) : Prop := pre.foldl (encStep g64) (0, 0, []) = (q, l, out)

theorem and63 (v : Int) : 0 ≤ Builtin.bitAnd v 63 ∧ Builtin.bitAnd v 63 < 64 := by rw [bitAnd_m6]; omega
theorem g64_in (v : Int) : 0 ≤ g64 v ∧ g64 v < 256 := by
  have h : ∀ x ∈ b64c, 0 ≤ x ∧ x < 256 := by decide
  unfold g64
  rw [List.getD_eq_getElem?_getD]
  cases e : b64c[v.toNat]? with
  | none => simp
  | some x => exact h x (List.mem_of_getElem? e)
theorem encC {l n : Int} (hl : 0 ≤ l) (h0 : 0 ≤ n) (h1 : n < 256) : Builtin.bitAnd (Builtin.bitOr (l * 2 ^ Int.toNat 8) n) 65535 = (l * 256 + n) % 65536 := by
  rw [bitAnd_m16, show Int.toNat 8 = 8 from rfl, bitOr_add 8 hl h0 (by show n < 256; omega)]; rfl
theorem enc_snoc {pre out : List Int} {q l n : Int} (h : EncInv pre out q l) : ((pre ++ [n]).foldl (encStep g64) (0, 0, [])) = encStep g64 (q, l, out) n := by
  unfold EncInv at h
  rw [List.foldl_append, h]; rfl
theorem enc_w0 {pre out : List Int} {l n : Int} (h : EncInv pre out 0 l) (hl : 0 ≤ l) (h0 : 0 ≤ n) (h1 : n < 256) :
    EncInv (pre ++ [n]) (out ++ [b64c.getD (Builtin.bitAnd ((Builtin.bitAnd (Builtin.bitOr (l * 2 ^ Int.toNat 8) n) 65535).fdiv (2 ^ (0 + 8 - 6 : Int).toNat)) 63).toNat 0]) (0 + 8 - 6) (Builtin.bitAnd (Builtin.bitOr (l * 2 ^ Int.toNat 8) n) 65535) := by
  have e : ((l * 256 + n) % 65536).fdiv (2 ^ (0 + 8 - 6 : Int).toNat) = (l * 256 + n) % 65536 / 4 := by rw [Int.fdiv_eq_ediv_of_nonneg _ (by decide)]; rfl
  unfold EncInv
  rw [enc_snoc h, encC hl h0 h1, e, bitAnd_m6]
  simp [encStep, g64]
theorem enc_w2 {pre out : List Int} {l n : Int} (h : EncInv pre out 2 l) (hl : 0 ≤ l) (h0 : 0 ≤ n) (h1 : n < 256) :
    EncInv (pre ++ [n]) (out ++ [b64c.getD (Builtin.bitAnd ((Builtin.bitAnd (Builtin.bitOr (l * 2 ^ Int.toNat 8) n) 65535).fdiv (2 ^ (2 + 8 - 6 : Int).toNat)) 63).toNat 0]) (2 + 8 - 6) (Builtin.bitAnd (Builtin.bitOr (l * 2 ^ Int.toNat 8) n) 65535) := by
  have e : ((l * 256 + n) % 65536).fdiv (2 ^ (2 + 8 - 6 : Int).toNat) = (l * 256 + n) % 65536 / 16 := by rw [Int.fdiv_eq_ediv_of_nonneg _ (by decide)]; rfl
  unfold EncInv
  rw [enc_snoc h, encC hl h0 h1, e, bitAnd_m6]
  simp [encStep, g64]
theorem enc_w4 {pre out : List Int} {l n : Int} (h : EncInv pre out 4 l) (hl : 0 ≤ l) (h0 : 0 ≤ n) (h1 : n < 256) :
    EncInv (pre ++ [n]) (out ++ [b64c.getD (Builtin.bitAnd ((Builtin.bitAnd (Builtin.bitOr (l * 2 ^ Int.toNat 8) n) 65535).fdiv (2 ^ (4 + 8 - 6 : Int).toNat)) 63).toNat 0] ++ [b64c.getD (Builtin.bitAnd ((Builtin.bitAnd (Builtin.bitOr (l * 2 ^ Int.toNat 8) n) 65535).fdiv (2 ^ (4 + 8 - 6 - 6 : Int).toNat)) 63).toNat 0]) (4 + 8 - 6 - 6) (Builtin.bitAnd (Builtin.bitOr (l * 2 ^ Int.toNat 8) n) 65535) := by
  have e : ((l * 256 + n) % 65536).fdiv (2 ^ (4 + 8 - 6 : Int).toNat) = (l * 256 + n) % 65536 / 64 := by rw [Int.fdiv_eq_ediv_of_nonneg _ (by decide)]; rfl
  have e2 : ((l * 256 + n) % 65536).fdiv (2 ^ (4 + 8 - 6 - 6 : Int).toNat) = (l * 256 + n) % 65536 := by rw [Int.fdiv_eq_ediv_of_nonneg _ (by decide)]; exact Int.ediv_one _
  unfold EncInv
  rw [enc_snoc h, encC hl h0 h1, e, e2, bitAnd_m6, bitAnd_m6]
  simp [encStep, g64]
theorem encC_in (l n : Int) : 0 ≤ Builtin.bitAnd (Builtin.bitOr (l * 2 ^ Int.toNat 8) n) 65535 ∧ Builtin.bitAnd (Builtin.bitOr (l * 2 ^ Int.toNat 8) n) 65535 < 65536 := by rw [bitAnd_m16]; omega
theorem enc_done {vs out : List Int} {q l : Int} (h : EncInv (octs vs) out q l) (h4 : vs.length % 4 = 0) (hv : ∀ v ∈ vs, 0 ≤ v ∧ v < 64) : q = 0 ∧ out = vs.map g64 := by
  unfold EncInv at h
  obtain ⟨l', _, e⟩ := enc_all g64 vs h4 hv 0 [] (by decide)
  rw [e] at h
  simp only [Prod.mk.injEq, List.nil_append] at h
  exact ⟨h.1.symm, h.2.2.symm⟩

theorem b2a (w : World) (b : Array UInt8) (vs : List Int) (t : Tok) : Says w 3 118 (b.toList.map (fun c => (c.toNat : Int)) = octs vs ∧ vs.length % 4 = 0 ∧ (∀ v ∈ vs, 0 ≤ v ∧ v < 64) ∧ vs.length ≤ 4096) [.bytes b t] [(PySem.Str.ofString "newline", .bool false)] (fun t => .bytes (byteArr (vs.map g64)) t) := by
  unfold Says
  k_fill
  k_with_none
  w_top off
  intros
  rename_i hpre _ _ hret
  refine wpAny_call ?_
  k_dflt cell_enter
  k_with "call ref" => (k_here; k_dflt (refine' Says.go (buffer_b w _ _) ?k1 ?k2 ?k3 ?k4 ?k5 ?kK ?kp ?kd ?ku ?_; (case k1 => k_asm); (case k2 => k_asm); (case k3 => k_asm); (case k4 => k_asm); (case k5 => k_asm); (case kK => exact rfl); (case kp => trivial); (case kd => ktr_room); (case ku => ktr_units); intro t9 h9 tk9 F9 N9; (try dsimp only); (try k_fold)))
  k_with "call ref" => (k_here; k_dflt (refine' Says.go (truth_b w _) ?k1 ?k2 ?k3 ?k4 ?k5 ?kK ?kp ?kd ?ku ?_; (case k1 => k_asm); (case k2 => k_asm); (case k3 => k_asm); (case k4 => k_asm); (case k5 => k_asm); (case kK => exact rfl); (case kp => trivial); (case kd => ktr_room); (case ku => ktr_units); intro t9 h9 tk9 F9 N9; (try dsimp only); (try k_fold)))

  k_with "pyIter bytes" => fail
  k_steps
  obtain ⟨hp0, hp4, hp1, hp2⟩ := hpre
  have hbs : b.size ≤ 4096 := by have := congrArg List.length hp0; rw [octs_length _ hp4] at this; simp at this; omega
  rename News _ _ _ _ => lN
  rename Fr _ _ _ _ => lF
  k_here
  refine' KStb.kst_bytes (σ := List Value × List Int × Nat × Int × Nat × Int × Nat)
    (fun c => (_, W.listOf c.1.toArray c.2.2.1) :: _)
    (fun c => [(PySem.Str.ofString "leftbits", .int c.2.2.2.1 c.2.2.2.2.1), (PySem.Str.ofString "leftchar", .int c.2.2.2.2.2.1 c.2.2.2.2.2.2)])
    (fun c => IntsAre c.1 c.2.1) []
    (fun pre c => EncInv pre c.2.1 c.2.2.2.1 c.2.2.2.2.2.1 ∧ c.2.1.length ≤ 2 * pre.length ∧ (c.2.2.2.1 = 0 ∨ c.2.2.2.1 = 2 ∨ c.2.2.2.1 = 4) ∧ 0 ≤ c.2.2.2.2.2.1 ∧ c.2.2.2.2.2.1 < 65536)
    (([], [], 0, 0, _, 0, _)) rfl rfl rfl lF lN IntsAre.nil ?kk ⟨rfl, Nat.le_refl 0, .inl rfl, Int.le_refl 0, (show (0:Int) < 65536 by decide)⟩ ?_ ?_
  case kk => kst_all
  · clear lF lN
    rintro ⟨us, out, ep, q, tq, l, tl⟩ kPre kPost kN kT kU kH kTk kOwn kEq kLen kLo kHi kOff kFacts kInv kFr kNews
    have kMark := kstMark
    dsimp only [kstB] at kFr
    dsimp only at kNews kFacts kInv
    simp only [List.cons_append] at kNews
    simp only [List.map_cons] at kOff
    obtain ⟨i1, i2, i3, i4, i5⟩ := kInv
    have kLn := IntsAre.length kFacts
    try k_fold
    have kLen2 : kPre.length < b.size := by rw [KBw.ints_length] at kLen; exact kLen
    have hsz : us.length ≤ 8192 := by rw [kLn]; omega
    k_with "subscriptTail Name BinOp bytes int" => (k_here; k_dflt (refine KBw.item_K (ks := b64c) (by rfl) (by decide) (and63 _).1 (and63 _).2 ?_); intro _ _ _ _)
    obtain rfl | rfl | rfl := i3
    · k_with "state" => exact ⟨enc_w0 i1 i4 kLo kHi, by simp; omega, .inr (.inl rfl), (encC_in _ _).1, (encC_in _ _).2⟩
      k_steps
    · k_with "state" => exact ⟨enc_w2 i1 i4 kLo kHi, by simp; omega, .inr (.inr rfl), (encC_in _ _).1, (encC_in _ _).2⟩
      k_steps
    · k_with "state" => exact ⟨enc_w4 i1 i4 kLo kHi, by simp; omega, .inl rfl, (encC_in _ _).1, (encC_in _ _).2⟩
      k_steps
  · clear lF lN
    rintro ⟨us, out, ep, q, tq, l, tl⟩ kU kH kTk kLen kFacts kInv kFr kNews
    have kMark := kstMark
    dsimp only [kstB] at kFr
    dsimp only at kNews kFacts kInv
    obtain ⟨i1, i2, i3, i4, i5⟩ := kInv
    have kLn := IntsAre.length kFacts
    rw [show KBw.bInts b = octs vs from hp0] at i1
    obtain ⟨rfl, rfl⟩ := enc_done i1 hp4 hp1
    have hin : ∀ x ∈ vs.map g64, 0 ≤ x ∧ x < 256 := by intro x hx; obtain ⟨v, _, rfl⟩ := List.mem_map.mp hx; exact g64_in v
    have hln : (vs.map g64).length ≤ 4096 := by rw [List.length_map]; exact hp2
    have hvl : us.length ≤ 4096 := by rw [kLn]; exact hln
    try k_fold
    k_steps
    all_goals first | (refine ret_any hret ?e2 ?e3 _ rfl; (case e2 => k_asm); (case e3 => first | k_asm | (refine' cb_drop ?cbN ?cbS; (case cbN => assumption); (case cbS => first | kcj_all | (intro p hp; simp [hp]))))) | w_report

end Mine


-- part B5
namespace Mine

/-- the figure of a sign -/
def valN (c : Nat) : Int :=
  if 65 ≤ c ∧ c ≤ 90 then (c : Int) - 65 else if 97 ≤ c ∧ c ≤ 122 then (c : Int) - 71 else if 48 ≤ c ∧ c ≤ 57 then (c : Int) + 4 else if c = 32 then 62 else if c = 34 then 63 else 64
theorem valN_nonneg (c : Nat) : 0 ≤ valN c := by unfold valN; repeat' split; all_goals omega
theorem valN_lt {c : Nat} (h : valN c < 64) : c < 128 := by unfold valN at h; (repeat' split at h) <;> omega
structure Good (x : PySem.Str) : Prop where
  sign : ∀ c ∈ x.cps, valN c < 64
  four : x.cps.size % 4 = 0
  room : x.cps.size ≤ 1024
  pos : x.cps.size ≠ 0
def oct (x : PySem.Str) : Array UInt8 := byteArr (octs (x.cps.toList.map valN))
def asc (x : PySem.Str) : Array UInt8 := x.cps.map (fun c => c.toUInt8)
def tabE : Array UInt8 := mkTab [43, 47] [32, 34]
def tabD : Array UInt8 := mkTab [32, 34] [43, 47]
theorem tabE_at : ∀ c < 128, valN c < 64 → tabE.getD ((g64 (valN c)).toNat.toUInt8).toNat ((g64 (valN c)).toNat.toUInt8) = c.toUInt8 := by decide +kernel
theorem tabD_at : ∀ c < 128, valN c < 64 → b64v ((tabD.getD (c.toUInt8).toNat c.toUInt8).toNat : Int) = valN c := by decide +kernel
theorem Good.vals {x : PySem.Str} (h : Good x) : ∀ v ∈ x.cps.toList.map valN, 0 ≤ v ∧ v < 64 := by
  intro v hv
  obtain ⟨c, hc, rfl⟩ := List.mem_map.mp hv
  exact ⟨valN_nonneg c, h.sign c (Array.mem_toList_iff.mp hc)⟩
theorem Good.len4 {x : PySem.Str} (h : Good x) : (x.cps.toList.map valN).length % 4 = 0 := by simpa using h.four
theorem byteArr_ints {ns : List Int} (h : ∀ n ∈ ns, 0 ≤ n ∧ n < 256) : (byteArr ns).toList.map (fun c => (c.toNat : Int)) = ns := KBa.ints_make h
theorem oct_ints {x : PySem.Str} (h : Good x) : (oct x).toList.map (fun c => (c.toNat : Int)) = octs (x.cps.toList.map valN) := byteArr_ints (octs_range _ h.len4 h.vals)
theorem trE {x : PySem.Str} (h : Good x) : trMap (mkTab (#[43, 47] : Array UInt8).toList (#[32, 34] : Array UInt8).toList) (byteArr ((x.cps.toList.map valN).map g64)) = asc x := by
  show trMap tabE _ = _
  apply Array.ext'
  unfold trMap asc byteArr
  simp only [Array.toList_map, List.map_map]
  refine List.map_congr_left fun c hc => ?_
  have hs := h.sign c (Array.mem_toList_iff.mp hc)
  exact tabE_at c (valN_lt hs) hs
theorem trD {x : PySem.Str} (h : Good x) : ((trMap (mkTab (#[32, 34] : Array UInt8).toList (#[43, 47] : Array UInt8).toList) (asc x)).toList.map (fun c => (c.toNat : Int))).map b64v = x.cps.toList.map valN := by
  show ((trMap tabD _).toList.map _).map _ = _
  unfold trMap asc
  simp only [Array.toList_map, List.map_map]
  refine List.map_congr_left fun c hc => ?_
  have hs := h.sign c (Array.mem_toList_iff.mp hc)
  exact tabD_at c (valN_lt hs) hs
theorem trD_size {x : PySem.Str} : (trMap (mkTab (#[32, 34] : Array UInt8).toList (#[43, 47] : Array UInt8).toList) (asc x)).size = x.cps.size := by simp [trMap, asc]
theorem trD_lt {x : PySem.Str} (h : Good x) : ∀ n ∈ (trMap (mkTab (#[32, 34] : Array UInt8).toList (#[43, 47] : Array UInt8).toList) (asc x)).toList.map (fun c => (c.toNat : Int)), b64v n < 64 := by
  intro n hn
  have : b64v n ∈ ((trMap (mkTab (#[32, 34] : Array UInt8).toList (#[43, 47] : Array UInt8).toList) (asc x)).toList.map (fun c => (c.toNat : Int))).map b64v := List.mem_map_of_mem hn
  rw [trD h] at this
  exact (h.vals _ this).2

theorem trD_facts {x : PySem.Str} (h : Good x) : (∀ n ∈ (trMap (mkTab [32, 34] [43, 47]) (asc x)).toList.map (fun c => (c.toNat : Int)), b64v n < 64) ∧ (trMap (mkTab [32, 34] [43, 47]) (asc x)).size % 4 = 0 ∧ (trMap (mkTab [32, 34] [43, 47]) (asc x)).size ≤ 4096 := by
  have e : (trMap (mkTab [32, 34] [43, 47]) (asc x)).size = x.cps.size := trD_size
  exact ⟨trD_lt h, by rw [e]; exact h.four, by rw [e]; exact Nat.le_trans h.room (by decide)⟩
theorem meta_bytes : typeOf (.type "bytes") = pure (.type "type") := by kernel_rfl
theorem stub_bytes : Manifest.isStub "bytes" = false := by decide +kernel
theorem mtb {prog : Program} {w : World} {A : Around} {E : Value → Shared → Prop} {s : Shared} {K : Frag} {h₀ : Heap} {L : Addr} {m : PySem.Str → Option Value} {v : Value} {name : PySem.Str} {pl : Sem Bool} {Q : Value × List Value → Shared → Prop} (F : Fr h₀ L s.heap m) (X₀ : K.In h₀) 
    (e : findCls K (.type "bytes") (.type "type") name = some (.val v)) (hh : handedIn v = true) (h : Q (v, []) { s with toks := s.toks + 1 }) : wpAny (model prog w) A (getMethod (.type "bytes") name pl) Q E s :=
  by with_reducible exact method_type F X₀ meta_bytes stub_bytes e hh h
theorem enc64 (w : World) (x : PySem.Str) (t t' : Tok) : Says w 4 126 (Good x) [.bytes (oct x) t, .bytes #[32, 34] t'] [] (fun t => .bytes (asc x) t) := by
  unfold Says
  k_fill
  k_with_none
  w_top off
  intros
  rename_i hpre _ _ hret
  refine wpAny_call ?_
  k_dflt (refine' code_def ?k1 ?k2 ?k3 ?k4 ?k5 ?kA ?kF ?kK ?k6 ?k7 ?k8 ?k9 ?kB ?_ ?c2 ?c3 ?c4 ?c5; (case kA => exact rfl); (case kF => exact rfl); (case kK => assumption); (case k1 => k_asm); (case k2 => k_asm); (case k3 => k_asm); (case k4 => k_asm); (case k5 => k_asm); (case k6 => k_is); (case k7 => k_is); (case k8 => ktr_room); (case k9 => exact binds_K (by k_in) rfl (by k_is) rfl rfl rfl); (case c5 => decide); (case kB => exact locs rfl); (case c2 => exact rfl); (case c3 => exact rfl); (case c4 => exact rfl); k_whole; intro g' L' h' FG' F' N' B' X' T'; (try dsimp only); (try k_lift B'); (try k_fold))
  k_with "call ref" => (k_here; k_dflt (refine' Says.go (b2a w _ (x.cps.toList.map valN) _) ?k1 ?k2 ?k3 ?k4 ?k5 ?kK ?kp ?kd ?ku ?_; (case k1 => k_asm); (case k2 => k_asm); (case k3 => k_asm); (case k4 => k_asm); (case k5 => k_asm); (case kK => exact rfl); (case kp => exact ⟨oct_ints hpre, hpre.len4, hpre.vals, by have := hpre.room; simp; omega⟩); (case kd => ktr_room); (case ku => ktr_units); intro t9 h9 tk9 F9 N9; (try dsimp only); (try k_fold)))

  k_with "getMethod type:bytes" => (k_here; k_dflt (refine' mtb ?F ?X ?e ?h ?_; (case F => k_asm); (case X => k_asm); (case e => k_is); (case h => k_handed)))
  k_with "getMethod bytes" => (k_here; (with_reducible refine method_translate ?_))
  k_with "call builtin:bytes.maketrans" => (k_here; k_dflt (refine call_maketrans rfl ?_); intro _ _)
  k_with "call builtin:bytes.translate" => (k_here; k_dflt (refine call_translate (tab_size _ _) (by rw [byteArr_size, List.length_map, List.length_map]; exact Nat.le_trans hpre.room (by decide)) ?_); intro _ _)
  k_steps
  refine ret_any hret ?e2 ?e3 _ (congrArg (fun b => Value.bytes b _) (trE hpre))
  · k_asm
  · k_asm

theorem dec64 (w : World) (x : PySem.Str) (t t' : Tok) : Says w 4 134 (Good x) [.str x t, .bytes #[32, 34] t'] [] (fun t => .bytes (oct x) t) := by
  unfold Says
  k_fill
  k_with_none
  w_top off
  intros
  rename_i hpre _ _ hret
  refine wpAny_call ?_
  k_dflt (refine' code_def ?k1 ?k2 ?k3 ?k4 ?k5 ?kA ?kF ?kK ?k6 ?k7 ?k8 ?k9 ?kB ?_ ?c2 ?c3 ?c4 ?c5; (case kA => exact rfl); (case kF => exact rfl); (case kK => assumption); (case k1 => k_asm); (case k2 => k_asm); (case k3 => k_asm); (case k4 => k_asm); (case k5 => k_asm); (case k6 => k_is); (case k7 => k_is); (case k8 => ktr_room); (case k9 => exact binds_K (by k_in) rfl (by k_is) rfl rfl rfl); (case c5 => decide); (case kB => exact locs rfl); (case c2 => exact rfl); (case c3 => exact rfl); (case c4 => exact rfl); k_whole; intro g' L' h' FG' F' N' B' X' T'; (try dsimp only); (try k_lift B'); (try k_fold))
  k_with "call ref" => (k_here; k_dflt (refine' Says.go (bytes_from_s w _ _) ?k1 ?k2 ?k3 ?k4 ?k5 ?kK ?kp ?kd ?ku ?_; (case k1 => k_asm); (case k2 => k_asm); (case k3 => k_asm); (case k4 => k_asm); (case k5 => k_asm); (case kK => exact rfl); (case kp => exact ⟨fun c hc => valN_lt (hpre.sign c hc), Nat.le_trans hpre.room (by decide)⟩); (case kd => ktr_room); (case ku => ktr_units); intro t9 h9 tk9 F9 N9; (try dsimp only); (try k_fold)))
  k_with "call ref" => (k_here; k_dflt (refine' Says.go (bytes_from_b w _ _) ?k1 ?k2 ?k3 ?k4 ?k5 ?kK ?kp ?kd ?ku ?_; (case k1 => k_asm); (case k2 => k_asm); (case k3 => k_asm); (case k4 => k_asm); (case k5 => k_asm); (case kK => exact rfl); (case kp => trivial); (case kd => ktr_room); (case ku => ktr_units); intro t9 h9 tk9 F9 N9; (try dsimp only); (try k_fold)))
  k_with "call ref" => (k_here; k_dflt (refine' Says.go (a2b w _ _) ?k1 ?k2 ?k3 ?k4 ?k5 ?kK ?kp ?kd ?ku ?_; (case k1 => k_asm); (case k2 => k_asm); (case k3 => k_asm); (case k4 => k_asm); (case k5 => k_asm); (case kK => exact rfl); (case kp => exact trD_facts hpre); (case kd => ktr_room); (case ku => ktr_units); intro t9 h9 tk9 F9 N9; (try dsimp only); (try k_fold)))

  k_with "getMethod type:bytes" => (k_here; k_dflt (refine' mtb ?F ?X ?e ?h ?_; (case F => k_asm); (case X => k_asm); (case e => k_is); (case h => k_handed)))
  k_with "getMethod bytes" => (k_here; (with_reducible refine method_translate ?_))
  k_with "call builtin:bytes.maketrans" => (k_here; k_dflt (refine call_maketrans rfl ?_); intro _ _)
  k_with "call builtin:bytes.translate" => (k_here; k_dflt (refine call_translate (tab_size _ _) (by rw [Array.size_map]; exact Nat.le_trans hpre.room (by decide)) ?_); intro _ _)
  k_steps
  refine ret_any hret ?e2 ?e3 _ (congrArg (fun b => Value.bytes b _) (congrArg (fun v => byteArr (octs v)) (trD hpre)))
  · k_asm
  · k_asm
end Mine


-- part B6
namespace Mine

/-- what parse257 makes of what stands behind the first five signs -/
def unq : List Nat → List Nat
  | [] => []
  | c :: r => if c = 34 then (match r with | [] => [] | d :: r' => if d = 34 then 34 :: unq r' else []) else c :: unq r

theorem unq_ne {c : Nat} {r : List Nat} (h : ¬ c = 34) : unq (c :: r) = c :: unq r := by cases r <;> simp [unq, h]

def Pinv (x : PySem.Str) (R : List Nat) (i : Int) (d : PySem.Str) : Prop :=
  5 ≤ i ∧ i ≤ x.cps.size ∧ d.cps.toList ++ unq (x.cps.toList.drop i.toNat) = unq R ∧ d.length ≤ x.cps.size ∧ d.length ≤ i

theorem item_at {x : PySem.Str} {i : Int} (h0 : 0 ≤ i) (h : i < x.length) : ∃ c, Txt.item x i = ⟨#[c]⟩ ∧ x.cps.toList.drop i.toNat = c :: x.cps.toList.drop (i + 1).toNat := by
  have hlt : i.toNat < x.cps.size := by have : x.length = x.cps.size := rfl; omega
  refine ⟨x.cps[i.toNat], ?_, ?_⟩
  · unfold Txt.item Txt.charAt
    rw [StrLaws.at_nonneg h0 (Array.getElem?_eq_getElem hlt)]
    rfl
  · have e : (i + 1).toNat = i.toNat + 1 := by omega
    rw [e, List.drop_eq_getElem_cons (by simpa using hlt)]
    simp
theorem quote_eq {c : Nat} : ((⟨#[c]⟩ : PySem.Str) == PySem.Str.ofString "\"") = decide (c = 34) := by
  have e : PySem.Str.ofString "\"" = ⟨#[34]⟩ := by decide +kernel
  rw [e]
  by_cases h : c = 34
  · subst h; decide
  · rw [decide_eq_false h]
    apply beq_false_of_ne
    intro h2
    have := congrArg PySem.Str.cps h2
    simp at this
    exact h this
theorem quote_ne {c : Nat} : ((⟨#[c]⟩ : PySem.Str) != PySem.Str.ofString "\"") = decide (c ≠ 34) := by
  rw [bne, quote_eq]; simp
theorem eq_of_list {d : PySem.Str} {l : List Nat} (h : d.cps.toList = l) : d = ⟨l.toArray⟩ := by subst h; simp
theorem app_list {d : PySem.Str} {c : Nat} : (d ++ (⟨#[c]⟩ : PySem.Str)).cps.toList = d.cps.toList ++ [c] := by
  rw [PySem.Str.cps_append]; simp
theorem p_end {x : PySem.Str} {R : List Nat} {i : Int} {d : PySem.Str} (h : Pinv x R i d) (hn : ¬ i < x.length) : d = ⟨(unq R).toArray⟩ := by
  obtain ⟨h1, h2, h3, h4, h5⟩ := h
  have e : x.length = x.cps.size := rfl
  rw [List.drop_of_length_le (by simp; omega)] at h3
  exact eq_of_list (by simpa [unq] using h3)
theorem p_brk1 {x : PySem.Str} {R : List Nat} {i : Int} {d : PySem.Str} (h : Pinv x R i d) (hn : i < x.length) (hq : (Txt.item x i == PySem.Str.ofString "\"") = true) (hl : x.length ≤ i + 1) : d = ⟨(unq R).toArray⟩ := by
  obtain ⟨h1, h2, h3, h4, h5⟩ := h
  obtain ⟨c, e1, e2⟩ := item_at (by omega) hn
  rw [e1, quote_eq, decide_eq_true_eq] at hq
  subst hq
  have e : x.length = x.cps.size := rfl
  rw [e2, List.drop_of_length_le (by simp; omega)] at h3
  exact eq_of_list (by simpa [unq] using h3)
theorem p_brk2 {x : PySem.Str} {R : List Nat} {i : Int} {d : PySem.Str} (h : Pinv x R i d) (hn : i < x.length) (hq : (Txt.item x i == PySem.Str.ofString "\"") = true) (hl : ¬ x.length ≤ i + 1) (hr : (Txt.item x (i + 1) != PySem.Str.ofString "\"") = true) : d = ⟨(unq R).toArray⟩ := by
  obtain ⟨h1, h2, h3, h4, h5⟩ := h
  obtain ⟨c, e1, e2⟩ := item_at (by omega) hn
  obtain ⟨c', e1', e2'⟩ := item_at (x := x) (i := i + 1) (by omega) (by omega)
  rw [e1, quote_eq, decide_eq_true_eq] at hq
  rw [e1', quote_ne, decide_eq_true_eq] at hr
  subst hq
  rw [e2, e2'] at h3
  exact eq_of_list (by simpa [unq, hr] using h3)
theorem p_two {x : PySem.Str} {R : List Nat} {i : Int} {d : PySem.Str} (h : Pinv x R i d) (hn : i < x.length) (hq : (Txt.item x i == PySem.Str.ofString "\"") = true) (hl : ¬ x.length ≤ i + 1) (hr : (Txt.item x (i + 1) != PySem.Str.ofString "\"") = false) : Pinv x R (i + 1 + 1) (d ++ Txt.item x i) := by
  obtain ⟨h1, h2, h3, h4, h5⟩ := h
  have e : x.length = x.cps.size := rfl
  obtain ⟨c, e1, e2⟩ := item_at (by omega) hn
  obtain ⟨c', e1', e2'⟩ := item_at (x := x) (i := i + 1) (by omega) (by omega)
  rw [e1, quote_eq, decide_eq_true_eq] at hq
  rw [e1', quote_ne, decide_eq_false_iff_not, Classical.not_not] at hr
  subst hq hr
  have hl2 : (d ++ (⟨#[34]⟩ : PySem.Str)).length = d.length + 1 := by rw [PySem.Str.length_append]; rfl
  refine ⟨by omega, by omega, ?_, by rw [e1, hl2]; omega, by rw [e1, hl2]; omega⟩
  rw [e1, app_list, ← h3, e2, e2']
  simp [unq]
theorem p_one {x : PySem.Str} {R : List Nat} {i : Int} {d : PySem.Str} (h : Pinv x R i d) (hn : i < x.length) (hq : (Txt.item x i == PySem.Str.ofString "\"") = false) : Pinv x R (i + 1) (d ++ Txt.item x i) := by
  obtain ⟨h1, h2, h3, h4, h5⟩ := h
  have e : x.length = x.cps.size := rfl
  obtain ⟨c, e1, e2⟩ := item_at (by omega) hn
  rw [e1, quote_eq, decide_eq_false_iff_not] at hq
  have hl2 : (d ++ (⟨#[c]⟩ : PySem.Str)).length = d.length + 1 := by rw [PySem.Str.length_append]; rfl
  refine ⟨by omega, by omega, ?_, by rw [e1, hl2]; omega, by rw [e1, hl2]; omega⟩
  rw [e1, app_list, ← h3, e2, unq_ne hq]
  simp

theorem p257 (w : World) (x : PySem.Str) (R : List Nat) (t : Tok) : Says w 2 53 (x.cps.toList = [50, 53, 55, 32, 34] ++ R ∧ x.cps.size ≤ 4096) [.str x t] [] (fun t => .str ⟨(unq R).toArray⟩ t) := by
  unfold Says
  k_fill
  k_with_none
  w_top off
  intros
  rename_i hpre _ _ hret
  refine wpAny_call ?_
  k_dflt cell_enter
  obtain ⟨hx, hsz⟩ := hpre
  have hlen : x.cps.size = 5 + R.length := by have := congrArg List.length hx; simp at this; omega
  have hl : x.length = 5 + R.length := hlen
  have f1 : (Txt.slice x none (some 3) != PySem.Str.ofString "257") = false := by
    have e : Txt.slice x none (some 3) = _ := StrLaws.sliceText_to (x := x) (j := 3) ⟨by decide, by simp; omega⟩
    rw [e, hx]; rfl
  have f2 : (Txt.slice x (some 3) (some 5) != PySem.Str.ofString " \"") = false := by
    have e : Txt.slice x (some 3) (some 5) = _ := StrLaws.sliceText_plain (x := x) (i := 3) (j := 5) ⟨by decide, by decide, by simp; omega⟩
    rw [e, hx]; rfl
  k_with "call builtin:len" => (k_here; k_dflt (refine P.len_str (by omega) ?_))
  k_with "exec While Compare cons nil" => (refine Stop.out ?_)
  k_steps
  unfold Stop
  rename News _ _ _ _ => lN
  rename Fr _ _ _ _ => lF
  k_here
  refine' ksw_while (σ := Int × Nat × PySem.Str × Nat) (fun _ => _)
    (fun c => [(PySem.Str.ofString "i", .int c.1 c.2.1), (PySem.Str.ofString "dirname", .str c.2.2.1 c.2.2.2)])
    (fun _ => True) [PySem.Str.ofString "c"]
    (fun c => Pinv x R c.1 c.2.2.1)
    (fun c => x.cps.size - c.1.toNat)
    (5, _, PySem.Str.ofString "", _) lF lN trivial ?kk ?kp ?_
  case kk => kst_all
  case kp => exact ⟨Int.le_refl 5, by show (5 : Int) ≤ _; omega, by show ([] : List Nat) ++ unq (x.cps.toList.drop 5) = unq R; rw [hx]; rfl, Nat.zero_le _, (by decide : (0 : Int) ≤ 5)⟩
  clear lF lN
  rintro ⟨i, ti, d, td⟩ kU kH kTk kFacts kInv kFr kNews
  have kMark := kstMark
  dsimp only [kstB] at kFr
  dsimp only at kNews kInv
  have hP := kInv
  obtain ⟨i1, i2, i3, i4, i5⟩ := kInv
  try k_fold
  k_with "state" => first | exact p_one hP (by assumption) (by assumption) | exact p_two hP (by assumption) (by assumption) (by assumption) (by assumption)
  k_with "measure" => (have hl9 : x.length = x.cps.size := rfl; omega)
  k_steps
  all_goals first
    | (refine ret_any hret ?e2 ?e3 _ (congrArg (fun z => Value.str z _) (p_brk2 hP (by assumption) (by assumption) (by assumption) (by assumption))); (case e2 => k_asm); (case e3 => k_asm))
    | (refine ret_any hret ?e2 ?e3 _ (congrArg (fun z => Value.str z _) (p_brk1 hP (by assumption) (by assumption) (by assumption))); (case e2 => k_asm); (case e3 => k_asm))
    | (refine ret_any hret ?e2 ?e3 _ (congrArg (fun z => Value.str z _) (p_end hP (by assumption))); (case e2 => k_asm); (case e3 => k_asm))
    | w_report
end Mine


-- part B7
namespace Mine

def num (vs : List Int) : Int := vs.foldl (fun a v => a * 64 + v) 0
def cval (c : Int) : Int := valN c.toNat

def signs : PySem.Str := PySem.Str.ofString "ABCDEFGHIJKLMNOPQRSTUVWXYZabcdefghijklmnopqrstuvwxyz0123456789 \""
theorem occ_at : ∀ c < 128, valN c < 64 → Builtin.Str.occurrences signs ⟨#[c]⟩ 0 signs.length 1 = [(valN c).toNat] := by decide +kernel
theorem idx {prog : Program} {w : World} {A : Around} {E : Value → Shared → Prop} {s : Shared} {c : Nat} {t u : Tok} {Q : Value → Shared → Prop} (h : valN c < 64) (hq : Q (.int (valN c) s.toks) { s with toks := s.toks + 1 }) :
    wpAny (model prog w) A (call (.builtin "str.index") [.str signs t, .str ⟨#[c]⟩ u]) Q E s := by
  refine SC.index (occ_at c (valN_lt h) h) ?_
  rw [Int.toNat_of_nonneg (valN_nonneg c)]
  exact hq
theorem num_snoc (pre : List Int) (n : Nat) : num ((pre ++ [(n : Int)]).map cval) = num (pre.map cval) * 64 + valN n := by
  simp [num, cval]

/-- the n lowest octets of V, the highest first -/
def dig (V : Int) (n : Nat) : List Int := ((List.range n).map fun (i : Nat) => V / 256 ^ i % 256).reverse
theorem dig_succ {V b : Int} (n : Nat) (h0 : 0 ≤ b) (h1 : b < 256) : dig (V * 256 + b) (n + 1) = dig V n ++ [b] := by
  unfold dig
  rw [List.range_succ_eq_map, List.map_cons, List.reverse_cons, List.map_map]
  congr 1
  · congr 1
    refine List.map_congr_left fun i _ => ?_
    show (V * 256 + b) / 256 ^ (i + 1) % 256 = V / 256 ^ i % 256
    have e : (256 : Int) ^ (i + 1) = 256 * 256 ^ i := by rw [Int.pow_succ, Int.mul_comm]
    rw [e, ← Int.ediv_ediv_of_nonneg (by decide : (0 : Int) ≤ 256)]
    have : (V * 256 + b) / 256 = V := by omega
    rw [this]
  · congr 1
    show (V * 256 + b) / 1 % 256 = b
    omega
theorem dig_all (vs : List Int) (h : vs.length % 4 = 0) : (∀ v ∈ vs, 0 ≤ v ∧ v < 64) → ∀ (V : Int) (n : Nat), dig (vs.foldl (fun a v => a * 64 + v) V) (n + vs.length * 3 / 4) = dig V n ++ octs vs := by
  refine fours (P := fun vs => (∀ v ∈ vs, 0 ≤ v ∧ v < 64) → ∀ (V : Int) (n : Nat), dig (vs.foldl (fun a v => a * 64 + v) V) (n + vs.length * 3 / 4) = dig V n ++ octs vs) ?_ ?_ vs h
  · intro _ V n; simp [octs]
  · intro a b c d r hr ih hv V n
    have ha := hv a (by simp)
    have hb := hv b (by simp)
    have hc := hv c (by simp)
    have hd := hv d (by simp)
    have e1 : (((V * 64 + a) * 64 + b) * 64 + c) * 64 + d = ((V * 256 + (a * 4 + b / 16)) * 256 + (b % 16 * 16 + c / 4)) * 256 + (c % 4 * 64 + d) := by omega
    have e2 : n + (a :: b :: c :: d :: r).length * 3 / 4 = (n + 3) + r.length * 3 / 4 := by simp only [List.length_cons]; omega
    rw [e2]
    simp only [List.foldl_cons]
    rw [ih (fun v hm => hv v (by simp [hm])), e1, dig_succ (n + 2) (by omega) (by omega), dig_succ (n + 1) (by omega) (by omega), dig_succ n (by omega) (by omega), octs]
    simp
theorem dig_num {vs : List Int} (h : vs.length % 4 = 0) (hv : ∀ v ∈ vs, 0 ≤ v ∧ v < 64) : dig (num vs) (vs.length * 3 / 4) = octs vs := by
  have := dig_all vs h hv 0 0
  simpa [dig, num] using this
theorem cval_codes (x : PySem.Str) : (KStt.codes x).map cval = x.cps.toList.map valN := by
  unfold KStt.codes
  rw [List.map_map]
  rfl
theorem rev_in (v : Int) (n : Nat) : ∀ z ∈ ((rangeKs 0 n).map fun k => (v.fdiv (256 ^ k.toNat)).fmod 256).reverse, 0 ≤ z ∧ z < 256 := by
  intro z hz
  rw [List.mem_reverse] at hz
  obtain ⟨k, _, rfl⟩ := List.mem_map.mp hz
  rw [Int.fmod_eq_emod_of_nonneg _ (by decide)]
  omega
theorem rev_eq {x : PySem.Str} (h : Good x) {v : Int} (hv : v = num ((KStt.codes x).map cval)) {n : Nat} (hn : n = x.cps.size * 3 / 4) :
    byteArr (((rangeKs 0 n).map fun k => (v.fdiv (256 ^ k.toNat)).fmod 256).reverse) = oct x := by
  unfold oct
  congr 1
  rw [← dig_num h.len4 h.vals, ← cval_codes, ← hv]
  have el : ((KStt.codes x).map cval).length = x.cps.size := by simp [KStt.codes]
  rw [el, ← hn]
  unfold dig rangeKs
  rw [List.map_map]
  congr 1
  refine List.map_congr_left fun i _ => ?_
  show (v.fdiv (256 ^ ((0 : Int) + (i : Int)).toNat)).fmod 256 = _
  have e : ((0 : Int) + (i : Int)).toNat = i := by omega
  rw [e, Int.fmod_eq_emod_of_nonneg _ (by decide), Int.fdiv_eq_ediv_of_nonneg _ (Int.le_of_lt (Int.pow_pos (by decide)))]

theorem pow256_ne (k : Nat) : (256 : Int) ^ k ≠ 0 := Int.ne_of_gt (Int.pow_pos (by decide))
theorem noPy256 {v : Int} {k : Nat} (h : k ≤ 1000) : Builtin.divisionGoesByPylong v (256 ^ k) = false := by
  refine PyProof.noPylong_of_log2 ?_
  have e : ((256 : Int) ^ k).natAbs = 2 ^ (8 * k) := by rw [Int.natAbs_pow, Nat.pow_mul]; rfl
  rw [e, Nat.log2_two_pow]; omega

theorem octets (w : World) (x : PySem.Str) (t : Tok) : Says w 2 139 (Good x) [.str x t] [] (fun t => .bytes (oct x) t) := by
  unfold Says
  k_fill
  k_with_none
  w_top off
  intros
  rename_i hpre _ _ hret
  refine wpAny_call ?_
  k_dflt (refine' code_defC ?k1 ?k2 ?k3 ?k4 ?k5 ?kA ?kF ?kK ?k6 ?k7 ?k8 ?k9 ?kB ?kD ?_ ?c2 ?c3 ?c4; (case kA => exact rfl); (case kF => exact rfl); (case kK => assumption); (case k1 => k_asm); (case k2 => k_asm); (case k3 => k_asm); (case k4 => k_asm); (case k5 => k_asm); (case k6 => k_is); (case k7 => k_is); (case k8 => ktr_room); (case k9 => exact BindsTo.of_eq rfl); (case kB => exact rfl); (case kD => decide +kernel); (case c2 => exact rfl); (case c3 => exact rfl); (case c4 => exact rfl); k_whole; intro g' L' h' tk' cells' FG' F' N' Y' B' X' T' l1; (try k_lt l1); k_cells Y'; (try simp only [List.cons_append, List.nil_append] at N'); (try dsimp only); (try k_lift B'); (try k_fold))
  have l2 : ∀ p : Addr × Obj, p ∈ _ → p.1 < L' + 1 := fun p hp => Nat.lt_succ_of_lt (l1 p hp)
  have kMark := kstMark
  k_with "call builtin:len" => (k_here; k_dflt (refine P.len_str (by have := hpre.room; have e : x.length = x.cps.size := rfl; omega) ?_))
  k_with "pyIter str" => (refine Stop.out ?_)
  k_steps
  unfold Stop
  rename News _ _ _ _ => lN
  rename Fr _ _ _ _ => lF
  rename Obj.data _ = Data.cell _ => lD
  k_here
  refine' KStt.kst_text (σ := Obj × Int × Nat) (fun c => (L' + 1, c.1) :: _) (fun _ => [])
    (fun c => c.1.data = Data.cell (some (Value.int c.2.1 c.2.2))) []
    (fun pre c => c.2.1 = num (pre.map cval))
    (_, 0, _) rfl lF lN lD ?kk rfl ?_ ?_
  case kk => kst_all
  · clear lF lN
    rintro ⟨co, v, tv⟩ kPre kPost kN kT kU kH kTk kOwn kEq kOff kFacts kInv kFr kNews
    have kMark := kstMark
    dsimp only [kstB] at kFr
    dsimp only at kNews kInv kFacts
    simp only [List.cons_append] at kNews
    simp only [List.map_cons] at kOff
    have hs : valN kN < 64 := hpre.sign kN (by
      have : (kN : Int) ∈ KStt.codes x := by rw [kEq]; simp
      unfold KStt.codes at this
      obtain ⟨c, hc, e⟩ := List.mem_map.mp this
      have : c = kN := by omega
      subst this
      exact Array.mem_toList_iff.mp hc)
    k_with "call builtin:str.index" => (k_here; k_dflt (refine idx hs ?_))
    k_with "state" => (first | (rw [num_snoc, ← kInv]; done) | (dsimp only; rw [num_snoc, ← kInv]; done))
    try k_fold
    k_steps
    all_goals w_report
  · clear lF lN
    rintro ⟨co, v, tv⟩ kU kH kTk kFacts kInv kFr kNews
    have kMark := kstMark
    dsimp only [kstB] at kFr
    dsimp only at kNews kInv kFacts
    have hlx : x.length = x.cps.size := rfl
    have hrm := hpre.room
    have hq : ((x.length : Int) * 3).fdiv 4 = ((x.cps.size * 3 / 4 : Nat) : Int) := by
      rw [Int.fdiv_eq_ediv_of_nonneg _ (by decide), hlx]; omega
    k_with "CompSrc BinOp cons ref" => (refine Stop.out ?_)
    try k_fold
    k_steps
    unfold Stop
    k_here
    k_dflt (refine LCg.CompSrc.range (by rfl) (by k_asm) (by k_asm) (by assumption) (small_one (by decide) (by decide) (by omega) (by omega)) (rangeSize_nat _ _) (by rw [PySem.sizeLine_eq]; omega) ?_)
    intro g'
    refine' kcf_range (fun k => (v.fdiv (256 ^ k.toNat)).fmod 256) (fun k' t' I' oI' C' oC' D' m' ys' h' tk' E' hlo' hhi' hC' hx' F' N' off' ne' hMark' => ?_) ?_
    · simp only [LCg.Off3, and_true] at off'
      try k_fold
      have hk : k'.toNat ≤ 1000 := by omega
      k_with "binaryOp FloorDiv int int" => (k_here; k_dflt (refine floordiv_int (pow256_ne _) ?_ (Or.inl (noPy256 hk))))
      k_steps
      all_goals w_report
    · try k_fold
      k_with "call type:bytes cons nil" => (k_here; k_dflt (refine KBa.make_K (by k_asm) (by k_asm) (by rfl) (by kba_isList) (by kba_listInts) (rev_in _ _) (by rw [List.length_reverse, List.length_map, rangeKs_length]; omega) ?_); intro h' t' k F' N' _)
      k_steps
      refine ret_any hret ?e2 ?e3 _ (congrArg (fun b => Value.bytes b _) (rev_eq hpre kInv (by omega)))
      · k_asm
      · refine cb_drop (by assumption) ?_
        intro p hp
        simp [hp]
end Mine


-- part B8
namespace Mine

/-- a run in the ledger: the tuple's address, the length and the sign, each with its token -/
abbrev Run := Addr × Int × Tok × PySem.Str × Tok
def Run.obj (r : Run) : Obj := { cls := .type "tuple", data := .seq #[.int r.2.1 r.2.2.1, .str r.2.2.2.1 r.2.2.2.2] 0 }
def Run.len (r : Run) : Int := r.2.1
def Run.sign (r : Run) : PySem.Str := r.2.2.2.1
/-- what the loop of _law_left writes -/
def loopL (t : Int) : List (Int × List Nat) → List Nat
  | [] => []
  | (n, x) :: r => List.replicate (n / 2 ^ t.toNat).toNat 34 ++ (if n % 2 ^ t.toNat = 0 then x ++ loopL t r else [])
def leftL (t size : Int) (rs : List (Int × List Nat)) : List Nat :=
  let b := [50, 53, 55, 32, 34] ++ loopL t rs
  b ++ List.replicate (size - b.length).toNat 65
def Run.plain (r : Run) : Int × List Nat := (r.2.1, r.2.2.2.1.cps.toList)

theorem mulOk1 {x : PySem.Str} (h1 : x.length = 1) {n : Int} (h0 : -1024 ≤ n) (h : n ≤ 1024) : MulOk x n := by
  unfold MulOk
  rw [h1]
  refine ⟨?_, ?_, ?_⟩
  · simp only [Bool.or_eq_false_iff, decide_eq_false_iff_not]; omega
  · intro a _ hh
    have h2 : (1 : Int) ≤ (2 ^ 63 - 1 : Int) / n := by
      have hn : 0 < n := by omega
      exact (Int.le_ediv_iff_mul_le hn).mpr (by omega)
    have h3 : (2 ^ 63 - 1 : Int) / n < 1 := hh
    omega
  · intro a _
    unfold Builtin.Str.tooLong
    simp
    rw [PySem.sizeLine_eq]
    omega
theorem fold_rep (c : Nat) : ∀ (k : Nat) (acc : Array Nat), ((List.replicate k #[c]).foldl (· ++ ·) acc).toList = acc.toList ++ List.replicate k c
  | 0, acc => by simp
  | k + 1, acc => by
    rw [List.replicate_succ, List.foldl_cons, fold_rep c k, List.replicate_succ]
    simp
theorem mul_cps {c : Nat} (n : Int) : (Txt.mul ⟨#[c]⟩ n).cps.toList = List.replicate n.toNat c := by
  unfold Txt.mul
  by_cases h1 : n < 1
  · rw [if_pos h1]
    have : n.toNat = 0 := by omega
    rw [this]; rfl
  · rw [if_neg h1]
    by_cases h2 : n = 1
    · subst h2; rfl
    · have e : (n == 1 || (⟨#[c]⟩ : PySem.Str).length == 0) = false := by
        have : (n == 1) = false := by simpa using h2
        rw [this]; rfl
      rw [e, if_neg (by decide)]
      show ((List.replicate n.toNat #[c]).foldl (· ++ ·) #[]).toList = _
      rw [fold_rep]; simp
theorem quote_str : PySem.Str.ofString "\"" = ⟨#[34]⟩ := by decide +kernel
theorem a_str : PySem.Str.ofString "A" = ⟨#[65]⟩ := by decide +kernel

/-- the frame of _law_left, as the loop knows it -/
def lm (times : Int) (tt : Tok) (size : Int) (ts : Tok) (T : PySem.Str) (tT : Tok) (u : PySem.Str → Option Value) : PySem.Str → Option Value :=
  fun y => if y = PySem.Str.ofString "text" then some (.str T tT) else if y = PySem.Str.ofString "times" then some (.int times tt) else if y = PySem.Str.ofString "size" then some (.int size ts) else u y
theorem lm_eq {times : Int} {tt : Tok} {size : Int} {ts : Tok} {T : PySem.Str} {tT : Tok} {m : PySem.Str → Option Value} (h1 : m (PySem.Str.ofString "text") = some (.str T tT)) (h2 : m (PySem.Str.ofString "times") = some (.int times tt)) (h3 : m (PySem.Str.ofString "size") = some (.int size ts)) : m = lm times tt size ts T tT m := by
  funext y
  unfold lm
  by_cases e1 : y = PySem.Str.ofString "text"
  · rw [if_pos e1, e1, h1]
  · rw [if_neg e1]
    by_cases e2 : y = PySem.Str.ofString "times"
    · rw [if_pos e2, e2, h2]
    · rw [if_neg e2]
      by_cases e3 : y = PySem.Str.ofString "size"
      · rw [if_pos e3, e3, h3]
      · rw [if_neg e3]
section
variable {prog : Program} {w : World} {A : Around} {E : Value → Shared → Prop} {h₀ : Heap} {env : Env} {target : PySem.Expr} {body : List Stmt} {Q : Flow → Shared → Prop} {s : Shared} {I l : Addr} {lo : Obj} {news : List (Addr × Obj)}
theorem rest_cast {ws : List (Addr × String)} {keep : List (Addr × Obj)} {xs : List Itm} {m₀ m₁ : PySem.Str → Option Value} (e : m₀ = m₁) (h : ItemsRest prog w A E h₀ env target body Q s ws keep xs m₁ news) : ItemsRest prog w A E h₀ env target body Q s ws keep xs m₀ news := e ▸ h

def LEnd (h₀ : Heap) (L : Addr) (M : PySem.Str → Tok → (PySem.Str → Option Value) → PySem.Str → Option Value) (s : Shared) (led : List (Addr × Obj)) (X : List Nat) (s₂ : Shared) : Prop :=
  ∃ (h' : Heap) (tk' : Nat) (T' : PySem.Str) (tT' : Tok) (u' : PySem.Str → Option Value), s₂ = { s with heap := h', toks := tk' } ∧ T'.cps.toList = X ∧ Fr h₀ L h' (M T' tT' u') ∧ News h₀ L h' led
def LPost (h₀ : Heap) (L : Addr) (M : PySem.Str → Tok → (PySem.Str → Option Value) → PySem.Str → Option Value) (s : Shared) (led : List (Addr × Obj)) (times n : Int) (x T : PySem.Str) (f : Flow) (s₂ : Shared) : Prop :=
  match f with
  | .ret _ => False
  | .brk => ¬ n % 2 ^ times.toNat = 0 ∧ LEnd h₀ L M s led (T.cps.toList ++ List.replicate (n / 2 ^ times.toNat).toNat 34) s₂
  | _ => n % 2 ^ times.toNat = 0 ∧ LEnd h₀ L M s led (T.cps.toList ++ List.replicate (n / 2 ^ times.toNat).toNat 34 ++ x.cps.toList) s₂

theorem runs_loop (times : Int) (M : PySem.Str → Tok → (PySem.Str → Option Value) → PySem.Str → Option Value) (hl : (l, lo) ∈ news) (lI : ∀ p ∈ news, p.1 < I)
    (turn : ∀ (a : Addr) (n : Int) (tn : Tok) (x : PySem.Str) (tx : Tok) (T : PySem.Str) (tT : Tok) (u : PySem.Str → Option Value) (h : Heap) (tk : Nat) (o : Obj), T.length ≤ 400 → (a, Run.obj (a, n, tn, x, tx)) ∈ (I, o) :: news → 0 ≤ n → n ≤ 19 → x.length = 1 →
      Fr h₀ env.locals h (M T tT u) → News h₀ env.locals h ((I, o) :: news) →
      wpAny (model prog w) A (assign target env (.ref a)) (fun _ s₂ => wpAny (model prog w) A (execs body env) (LPost h₀ env.locals M { s with heap := h, toks := tk } ((I, o) :: news) times n x T) E s₂) E { s with heap := h, toks := tk }) :
    ∀ (rs : List Run) (T : PySem.Str) (tT : Tok) (u : PySem.Str → Option Value), (∀ r ∈ rs, (r.1, Run.obj r) ∈ news) → (∀ r ∈ rs, 0 ≤ r.2.1 ∧ r.2.1 ≤ 19 ∧ r.2.2.2.1.length = 1) → T.length + 20 * rs.length ≤ 400 →
    (∀ (T' : PySem.Str) (tT' : Tok) (u' : PySem.Str → Option Value) (h : Heap) (tk : Nat), T'.cps.toList = T.cps.toList ++ loopL times (rs.map Run.plain) → Fr h₀ env.locals h (M T' tT' u') → News h₀ env.locals h news → Q .next { s with heap := h, toks := tk }) →
    ItemsRest prog w A E h₀ env target body Q s [(I, "list_iterator")] [(l, lo)] ((rs.map fun r => Value.ref r.1).map Itm.val) (M T tT u) news := by
  intro rs
  induction rs with
  | nil =>
    intro T tT u _ _ _ done
    exact ItemsRest.zero fun h tk F N => done T tT u h tk (by simp [loopL]) F N
  | cons r rs ih =>
    obtain ⟨a, n, tn, x, tx⟩ := r
    intro T tT u hm hb hz done
    have hb0 := hb _ List.mem_cons_self
    have hm0 := hm _ List.mem_cons_self
    refine ItemsRest.val fun h tk F => ?_
    refine AllObj.cons fun o hc => AllObj.nil fun N => ?_
    simp only [List.cons_append, List.nil_append] at N
    have hp : 0 < (2 : Int) ^ times.toNat := Int.pow_pos (by decide)
    have hdn : 0 ≤ n / 2 ^ times.toNat ∧ n / 2 ^ times.toNat ≤ 19 := ⟨Int.ediv_nonneg hb0.1 (Int.le_of_lt hp), Int.le_trans (Int.ediv_le_self _ hb0.1) hb0.2.1⟩
    refine wpAny_mono (turn a n tn x tx T tT u h tk o (by simp only [List.length_cons] at hz; omega) (.tail _ hm0) hb0.1 hb0.2.1 hb0.2.2 F N) (fun _ s₂ h₂ => wpAny_mono h₂ (fun f s₃ p => ?_) fun _ _ e => e) fun _ _ e => e
    have fin : n % 2 ^ times.toNat = 0 ∧ LEnd h₀ env.locals M { s with heap := h, toks := tk } ((I, o) :: news) (T.cps.toList ++ List.replicate (n / 2 ^ times.toNat).toNat 34 ++ x.cps.toList) s₃ →
        UnrEndW h₀ env.locals { s with heap := h, toks := tk } [(I, o)] (fun m' n' => SubL [(l, lo)] n' ∧ ItemsRest prog w A E h₀ env target body Q s [(I, "list_iterator")] [(l, lo)] ((rs.map fun r => Value.ref r.1).map Itm.val) m' n') s₃ := by
      rintro ⟨h0, h', tk', T', tT', u', rfl, hT', F', N'⟩
      refine ⟨h', tk', _, news, rfl, F', N', fun p hp q hq => ?_, ⟨hl, trivial⟩, ?_⟩
      · rw [List.mem_singleton.mp hq]
        exact Nat.ne_of_lt (lI p hp)
      · refine ih T' tT' u' (fun r hr => hm r (.tail _ hr)) (fun r hr => hb r (.tail _ hr)) ?_ fun T'' tT'' u'' h'' tk'' hT'' F'' N'' => ?_
        · have e1 : T'.length = T'.cps.toList.length := by simp [PySem.Str.length]
          have e2 : T.length = T.cps.toList.length := by simp [PySem.Str.length]
          have e3 : x.cps.toList.length = 1 := by have := hb0.2.2; simpa [PySem.Str.length] using this
          rw [e1, hT', List.length_append, List.length_append, List.length_replicate, e3, ← e2]
          simp only [List.length_cons] at hz
          omega
        · refine done T'' tT'' u'' h'' tk'' ?_ F'' N''
          rw [hT'', hT']
          show _ = T.cps.toList ++ loopL times ((n, x.cps.toList) :: rs.map Run.plain)
          simp only [loopL, if_pos h0, List.append_assoc]
    cases f with
    | ret v => exact p.elim
    | brk =>
      obtain ⟨h0, h', tk', T', tT', u', rfl, hT', F', N'⟩ := p
      refine done T' tT' u' h' tk' ?_ F' (fun q hq => N' q (.tail _ hq))
      rw [hT']
      show _ = T.cps.toList ++ loopL times ((n, x.cps.toList) :: rs.map Run.plain)
      simp only [loopL, if_neg h0, List.append_nil]
    | next => exact fin p
    | cont => exact fin p
end

theorem lend {h₀ : Heap} {L : Addr} {times : Int} {tt : Tok} {size : Int} {ts : Tok} {s : Shared} {led : List (Addr × Obj)} {X : List Nat} {h' : Heap} {tk' : Nat} {m' : PySem.Str → Option Value} {T' : PySem.Str} {tT' : Tok} (F : Fr h₀ L h' m') (N : News h₀ L h' led)
    (h1 : m' (PySem.Str.ofString "text") = some (.str T' tT')) (h2 : m' (PySem.Str.ofString "times") = some (.int times tt)) (h3 : m' (PySem.Str.ofString "size") = some (.int size ts)) (hX : T'.cps.toList = X) :
    LEnd h₀ L (lm times tt size ts) s led X { s with heap := h', toks := tk' } := ⟨h', tk', T', tT', m', rfl, hX, (lm_eq h1 h2 h3) ▸ F, N⟩
theorem app_q {T : PySem.Str} {k k' : Int} (e : k = k') : (T ++ Txt.mul (PySem.Str.ofString "\"") k).cps.toList = T.cps.toList ++ List.replicate k'.toNat 34 := by
  subst e
  rw [quote_str, PySem.Str.cps_append, Array.toList_append, mul_cps]
theorem app_x {T x : PySem.Str} {k k' : Int} (e : k = k') : (T ++ Txt.mul (PySem.Str.ofString "\"") k ++ x).cps.toList = T.cps.toList ++ List.replicate k'.toNat 34 ++ x.cps.toList := by
  rw [PySem.Str.cps_append, Array.toList_append, app_q e]
theorem loop_len (t : Int) : ∀ rs : List Run, (∀ r ∈ rs, 0 ≤ r.2.1 ∧ r.2.1 ≤ 19 ∧ r.2.2.2.1.length = 1) → (loopL t (rs.map Run.plain)).length ≤ 20 * rs.length
  | [], _ => by simp [loopL]
  | r :: rs, h => by
    have ih := loop_len t rs fun r hr => h r (.tail _ hr)
    have h0 := h r List.mem_cons_self
    have hp0 : 0 < (2 : Int) ^ t.toNat := Int.pow_pos (by decide)
    have h1 : r.2.1 / 2 ^ t.toNat ≤ 19 := Int.le_trans (Int.ediv_le_self _ h0.1) h0.2.1
    have e3 : r.2.2.2.1.cps.toList.length = 1 := by have := h0.2.2; simpa [PySem.Str.length] using this
    show (loopL t ((r.2.1, r.2.2.2.1.cps.toList) :: rs.map Run.plain)).length ≤ _
    simp only [loopL, List.length_append, List.length_replicate, List.length_cons]
    split
    · rw [List.length_append, e3]; omega
    · simp only [List.length_nil]; omega
theorem head_str : (PySem.Str.ofString "257 \"").cps.toList = [50, 53, 55, 32, 34] := by decide +kernel
theorem left_eq {times size : Int} {T : PySem.Str} {ps : List (Int × List Nat)} (hT : T.cps.toList = (PySem.Str.ofString "257 \"").cps.toList ++ loopL times ps) : T ++ Txt.mul (PySem.Str.ofString "A") (size - (T.length : Int)) = ⟨(leftL times size ps).toArray⟩ := by
  rw [head_str] at hT
  have e1 : T.length = ([50, 53, 55, 32, 34] ++ loopL times ps).length := by rw [← hT]; simp [PySem.Str.length]
  apply PySem.Str.ext'
  apply Array.ext'
  rw [a_str, PySem.Str.cps_append, Array.toList_append, mul_cps, hT, e1]
  rfl

theorem left {w : World} (rs : List Run) {l : Addr} {ep : Nat} {times size : Int} {tt ts : Tok}
  {mean : ExcName → Option Value} {mg mb : PySem.Str → Option Value} {news : List (Addr × Obj)}
    {dp un : Nat} {gd : Option (List Code)} {cn : PySem.Str} {cs : Scope} {a : Addr} {ccd : Value} {cl : List (PySem.Str × Addr)} {outer : List Env} {A₀ : Around} {base h₀ : Heap} {L : Addr} {m : PySem.Str → Option Value} {s : Shared} {Q E : Value → Shared → Prop}
    (hBelow : Below A₀ base outer h₀) (hFr : Fr h₀ L s.heap m) (hIn : Frag.In (Mine.hd.heap_39 w.params) h₀) (hNews : News h₀ L s.heap news)
    (hTop : Top Mine.hd.view_39
      (looseW Mine.hd.view_39 [Str.ofString "Error_ftplib", Str.ofString "bytes_types", Str.ofString "Error_binascii", Str.ofString "a2b_base64", Str.ofString "b2a_base64", Str.ofString "b64encode", Str.ofString "b64decode"])
      mean mg mb h₀) (hk : cs.kind = .function)
    (hl : (l, W.listOf (rs.map fun r => Value.ref r.1).toArray ep) ∈ news) (hm : ∀ r ∈ rs, (r.1, Run.obj r) ∈ news)
    (hn : ∀ r ∈ rs, 0 ≤ r.2.1 ∧ r.2.1 ≤ 19 ∧ r.2.2.2.1.length = 1) (hlen : rs.length ≤ 8) (ht0 : 0 ≤ times) (ht5 : times ≤ 5) (hs0 : 0 ≤ size) (hs1 : size ≤ 1024)
    (hd : dp + 2 < recursionLimit) (hu : un + 8 * 2 < cLine)
    (hret : ∀ (t : Tok) (h' : Heap) (tk' : Nat), Fr h₀ L h' m → News h₀ L h' news → Q (.str ⟨(leftL times size (rs.map Run.plain)).toArray⟩ t) { s with heap := h', toks := tk' }) :
    wpAny (model Challenge.rw_pa0028_01.row.prog w) (ktrTop dp un gd cn cs L a ccd cl outer) (call (.ref 153) [.ref l, .int times tt, .int size ts]) Q E s := by
  revert hIn
  k_fill
  k_with_none
  w_top off
  intro hIn
  refine wpAny_call ?_
  k_dflt (refine' code_def ?k1 ?k2 ?k3 ?k4 ?k5 ?kA ?kF ?kK ?k6 ?k7 ?k8 ?k9 ?kB ?_ ?c2 ?c3 ?c4 ?c5; (case kA => exact rfl); (case kF => exact rfl); (case kK => assumption); (case k1 => k_asm); (case k2 => k_asm); (case k3 => k_asm); (case k4 => k_asm); (case k5 => k_asm); (case k6 => k_is); (case k7 => k_is); (case k8 => ktr_room); (case k9 => exact BindsTo.of_eq rfl); (case c5 => decide); (case kB => exact locs rfl); (case c2 => exact rfl); (case c3 => exact rfl); (case c4 => exact rfl); k_whole; intro g' L' h' FG' F' N' B' X' T'; (try dsimp only); (try k_lift B'); (try k_fold))
  k_with "exec For Tuple Name cons nil" => (refine Stop.out ?_)
  k_steps
  unfold Stop
  rename Fr _ _ _ _ => lF
  k_here
  refine For_turns lF ?_
  k_with "pyIter ref" => (refine Stop.out ?_)
  k_steps
  unfold Stop
  rename News _ _ _ _ => lN
  k_here
  refine iter_listTurns rfl lF lN hl rfl rfl ?_
  intro I lI
  refine rest_cast (lm_eq (times := times) (tt := tt) (size := size) (ts := ts) (by with_unfolding_all rfl) (by with_unfolding_all rfl) (by with_unfolding_all rfl)) ?_
  refine runs_loop times (lm times tt size ts) hl lI ?_ rs _ _ _ hm hn ?_ ?_
  · clear lN lF
    intro ra n tn x tx T tT u kH kTk ko hT hmA hn0 hn1 hx kFr kNews
    have kMark := kstMark
    unfold lm at kFr
    dsimp only [Run.obj] at hmA
    have hp0 : 0 < (2 : Int) ^ times.toNat := Int.pow_pos (by decide)
    have ed : n.fdiv (2 ^ times.toNat) = n / 2 ^ times.toNat := Int.fdiv_eq_ediv_of_nonneg _ (Int.le_of_lt hp0)
    have em : n.fmod (2 ^ times.toNat) = n % 2 ^ times.toNat := Int.fmod_eq_emod_of_nonneg _ (Int.le_of_lt hp0)
    have hdn : 0 ≤ n.fdiv (2 ^ times.toNat) ∧ n.fdiv (2 ^ times.toNat) ≤ 19 := by rw [ed]; exact ⟨Int.ediv_nonneg hn0 (Int.le_of_lt hp0), Int.le_trans (Int.ediv_le_self _ hn0) hn1⟩
    k_with "binaryOp Mult str int" => (k_here; k_dflt (refine SB.mul (mulOk1 (by rfl) (by omega) (by omega)) ?_); intro _ _)
    try k_fold
    k_steps
    · refine (⟨?_, ?_⟩ : ¬ n % 2 ^ times.toNat = 0 ∧ LEnd _ _ (lm times tt size ts) _ _ (T.cps.toList ++ List.replicate (n / 2 ^ times.toNat).toNat 34) _)
      · rw [← em]; assumption
      · exact lend (by assumption) (by assumption) (by with_unfolding_all rfl) (by with_unfolding_all rfl) (by with_unfolding_all rfl) (app_q ed)
    · refine (⟨?_, ?_⟩ : n % 2 ^ times.toNat = 0 ∧ LEnd _ _ (lm times tt size ts) _ _ (T.cps.toList ++ List.replicate (n / 2 ^ times.toNat).toNat 34 ++ x.cps.toList) _)
      · rw [← em]; assumption
      · exact lend (by assumption) (by assumption) (by with_unfolding_all rfl) (by with_unfolding_all rfl) (by with_unfolding_all rfl) (app_x ed)
  · show (PySem.Str.ofString "257 \"").length + 20 * rs.length ≤ 400
    have : (PySem.Str.ofString "257 \"").length = 5 := by decide +kernel
    omega
  · clear lN lF
    intro T tT u kH kTk hT kFr kNews
    unfold lm at kFr
    have hTl : T.length ≤ 400 := by
      have h1 := loop_len times rs hn
      have e1 : T.length = T.cps.toList.length := by simp [PySem.Str.length]
      rw [e1, hT, List.length_append, head_str]
      simp only [List.length_cons, List.length_nil]
      omega
    k_with "call builtin:len" => (k_here; k_dflt (refine P.len_str (by omega) ?_))
    k_with "binaryOp Mult str int" => (k_here; k_dflt (refine SB.mul (mulOk1 (by rfl) (by omega) (by omega)) ?_); intro _ _)
    try dsimp only
    try k_fold
    k_steps
    refine ret_any hret ?e2 ?e3 _ (congrArg (fun z => Value.str z _) (left_eq hT))
    · k_asm
    · k_asm
end Mine


-- part B9
namespace Mine

def signs63 : PySem.Str := PySem.Str.ofString "ABCDEFGHIJKLMNOPQRSTUVWXYZabcdefghijklmnopqrstuvwxyz0123456789 "
def runLen (n : Int) : Int := [0, 1, 2, 4, 6, 8, 12, (n.fdiv 504).fmod 20].getD (n.fmod 8).toNat 0
def runSign (n : Int) : PySem.Str := Txt.item signs63 ((n.fdiv 8).fmod 63)
theorem drop2 {α : Type} {x y : α} {l : List α} : ∀ p ∈ x :: l, p ∈ x :: y :: l := by
  intro p hp
  rcases List.mem_cons.mp hp with rfl | hp
  · exact .head _
  · exact .tail _ (.tail _ hp)

theorem run {w : World} {n : Int} {t : Tok}
  {mean : ExcName → Option Value} {mg mb : PySem.Str → Option Value} {news : List (Addr × Obj)}
    {dp un : Nat} {gd : Option (List Code)} {cn : PySem.Str} {cs : Scope} {a : Addr} {ccd : Value} {cl : List (PySem.Str × Addr)} {outer : List Env} {A₀ : Around} {base h₀ : Heap} {L : Addr} {m : PySem.Str → Option Value} {s : Shared} {Q E : Value → Shared → Prop}
    (hBelow : Below A₀ base outer h₀) (hFr : Fr h₀ L s.heap m) (hIn : Frag.In (Mine.hd.heap_39 w.params) h₀) (hNews : News h₀ L s.heap news)
    (hTop : Top Mine.hd.view_39
      (looseW Mine.hd.view_39 [Str.ofString "Error_ftplib", Str.ofString "bytes_types", Str.ofString "Error_binascii", Str.ofString "a2b_base64", Str.ofString "b2a_base64", Str.ofString "b64encode", Str.ofString "b64decode"])
      mean mg mb h₀) (hk : cs.kind = .function)
    (hn0 : 0 ≤ n) (hn1 : n < 1000000) (hd : dp + 2 < recursionLimit) (hu : un + 8 * 2 < cLine)
    (hret : ∀ (r : Addr) (t1 t2 : Tok) (h' : Heap) (tk' : Nat), Fr h₀ L h' m → News h₀ L h' ((r, Run.obj (r, runLen n, t1, runSign n, t2)) :: news) → (∀ p ∈ news, p.1 < r) → Q (.ref r) { s with heap := h', toks := tk' }) :
    wpAny (model Challenge.rw_pa0028_01.row.prog w) (ktrTop dp un gd cn cs L a ccd cl outer) (call (.ref 146) [.int n t]) Q E s := by
  revert hIn
  k_fill
  k_with_none
  w_top off
  intro hIn
  refine wpAny_call ?_
  k_dflt (refine' code_def ?k1 ?k2 ?k3 ?k4 ?k5 ?kA ?kF ?kK ?k6 ?k7 ?k8 ?k9 ?kB ?_ ?c2 ?c3 ?c4 ?c5; (case kA => exact rfl); (case kF => exact rfl); (case kK => assumption); (case k1 => k_asm); (case k2 => k_asm); (case k3 => k_asm); (case k4 => k_asm); (case k5 => k_asm); (case k6 => k_is); (case k7 => k_is); (case k8 => ktr_room); (case k9 => exact BindsTo.of_eq rfl); (case c5 => decide); (case kB => exact locs rfl); (case c2 => exact rfl); (case c3 => exact rfl); (case c4 => exact rfl); k_whole; intro g' L' h' FG' F' N' B' X' T'; (try dsimp only); (try k_lift B'); (try k_fold))
  have kMark := kstMark
  k_steps
  rename _ < _ ∧ AllLt _ _ => hlt
  rename News h₀ L _ _ => kN
  exact hret _ _ _ _ _ (by k_asm) (cb_drop kN drop2) (kst_ltOf hlt.2)
end Mine


-- part P28
namespace Mine

/-! the plain law -/
structure PGood (p : Int × List Nat) : Prop where
  lo : 0 ≤ p.1
  hi : p.1 ≤ 19
  one : ∃ c, p.2 = [c] ∧ valN c < 63
def tot (ps : List (Int × List Nat)) : Int := 5 + (ps.map fun p => p.1 + 1).sum

theorem unq_rep_even : ∀ (k : Nat) (r : List Nat), unq (List.replicate (2 * k) 34 ++ r) = List.replicate k 34 ++ unq r
  | 0, r => by simp
  | k + 1, r => by
    have e : 2 * (k + 1) = (2 * k + 1) + 1 := by omega
    rw [e, List.replicate_succ, List.replicate_succ, List.cons_append, List.cons_append]
    show (if (34 : Nat) = 34 then _ else _) = _
    rw [if_pos rfl]
    show (if (34 : Nat) = 34 then 34 :: unq (List.replicate (2 * k) 34 ++ r) else []) = _
    rw [if_pos rfl, unq_rep_even k r, List.replicate_succ]
    rfl
theorem unq_quote_ne {c : Nat} {r : List Nat} (h : ¬ c = 34) : unq (34 :: c :: r) = [] := by simp [unq, h]
theorem unq_quote_nil : unq [34] = [] := by simp [unq]
theorem unq_rep_odd (k : Nat) (r : List Nat) (h : ∀ c r', r = c :: r' → ¬ c = 34) : unq (List.replicate (2 * k + 1) 34 ++ r) = List.replicate k 34 := by
  have e : List.replicate (2 * k + 1) 34 ++ r = List.replicate (2 * k) 34 ++ (34 :: r) := by
    rw [List.replicate_succ']; simp
  rw [e, unq_rep_even]
  cases r with
  | nil => rw [unq_quote_nil]; simp
  | cons c r' => rw [unq_quote_ne (h c r' rfl)]; simp
theorem unq_as : ∀ m : Nat, unq (List.replicate m 65) = List.replicate m 65
  | 0 => rfl
  | m + 1 => by rw [List.replicate_succ, unq_ne (by decide), unq_as m]
theorem unq_len : ∀ l : List Nat, (unq l).length ≤ l.length
  | [] => Nat.le_refl _
  | [c] => by by_cases h : c = 34 <;> simp [unq, h]
  | c :: d :: r => by
    by_cases h : c = 34
    · by_cases h2 : d = 34
      · have := unq_len r
        simp [unq, h, h2]; omega
      · simp [unq, h, h2]
    · rw [unq_ne h]
      have := unq_len (d :: r)
      simp only [List.length_cons] at this ⊢
      omega

theorem loop_unq (t : Nat) (m : Nat) : ∀ ps : List (Int × List Nat), (∀ p ∈ ps, PGood p) → ∃ m', unq (loopL t ps ++ List.replicate m 65) = loopL ((t : Int) + 1) ps ++ List.replicate m' 65
  | [], _ => ⟨m, by simp [loopL, unq_as]⟩
  | (n, x) :: ps, h => by
    have h0 := h (n, x) List.mem_cons_self
    obtain ⟨c, hx, hc⟩ := h0.one
    have hlo : 0 ≤ n := h0.lo
    simp only at hx
    subst hx
    have hc34 : ¬ c = 34 := by rintro rfl; revert hc; decide
    obtain ⟨m', ih⟩ := loop_unq t m ps fun p hp => h p (.tail _ hp)
    have et : ((t : Int) + 1).toNat = t + 1 := by omega
    have et0 : ((t : Int)).toNat = t := by omega
    have hP : 0 < (2 : Int) ^ t := Int.pow_pos (by decide)
    have hP1 : (2 : Int) ^ (t + 1) = 2 ^ t * 2 := Int.pow_succ _ _
    obtain ⟨q, hq⟩ : ∃ q : Nat, n / 2 ^ t = q := ⟨(n / 2 ^ t).toNat, by have := Int.ediv_nonneg hlo (Int.le_of_lt hP); omega⟩
    have hd : n / 2 ^ (t + 1) = ((q / 2 : Nat) : Int) := by
      rw [hP1, ← Int.ediv_ediv_of_nonneg (Int.le_of_lt hP), hq]; omega
    have hm : n % 2 ^ (t + 1) = 0 ↔ n % 2 ^ t = 0 ∧ q % 2 = 0 := by
      have e1 := Int.mul_ediv_add_emod n (2 ^ t)
      have b1 := Int.emod_nonneg n (Int.ne_of_gt hP)
      have b2 := Int.emod_lt_of_pos n hP
      rw [hq] at e1
      rw [hP1]
      generalize (2 : Int) ^ t = P at *
      generalize n % P = r1 at *
      have hq2 : q % 2 = 0 ∨ q % 2 = 1 := by omega
      have e3 : P * (q : Int) = P * 2 * ((q / 2 : Nat) : Int) + P * ((q % 2 : Nat) : Int) := by
        rw [Int.mul_assoc, ← Int.mul_add]; congr 1; omega
      rcases hq2 with h2 | h2
      · rw [h2] at e3 ⊢
        have e4 : n % (P * 2) = r1 := ((Int.ediv_emod_unique (a := n) (b := P * 2) (r := r1) (q := ((q / 2 : Nat) : Int)) (by omega)).mpr ⟨by rw [← e1, e3]; simp; omega, b1, by omega⟩).2
        rw [e4]; simp
      · rw [h2] at e3 ⊢
        have e4 : n % (P * 2) = P + r1 := ((Int.ediv_emod_unique (a := n) (b := P * 2) (r := P + r1) (q := ((q / 2 : Nat) : Int)) (by omega)).mpr ⟨by rw [← e1, e3]; simp; omega, by omega, by omega⟩).2
        rw [e4]
        constructor
        · intro h; omega
        · intro h; omega
    simp only [loopL, et, et0, hq, hd, Int.toNat_natCast]
    by_cases c1 : n % 2 ^ t = 0
    · rw [if_pos c1]
      by_cases c2 : q % 2 = 0
      · rw [if_pos (hm.mpr ⟨c1, c2⟩)]
        refine ⟨m', ?_⟩
        have e : q = 2 * (q / 2) := by omega
        rw [e, List.append_assoc, unq_rep_even, List.cons_append, List.nil_append, List.cons_append, unq_ne hc34, ih]
        have : 2 * (q / 2) / 2 = q / 2 := by omega
        rw [this]
        simp
      · rw [if_neg (fun h => c2 (hm.mp h).2)]
        refine ⟨0, ?_⟩
        have e : q = 2 * (q / 2) + 1 := by omega
        rw [e, List.append_assoc, unq_rep_odd _ _ (by intro c' r' hh; simp at hh; rw [← hh.1]; exact hc34)]
        have : (2 * (q / 2) + 1) / 2 = q / 2 := by omega
        rw [this]
        simp
    · rw [if_neg c1, if_neg (fun h => c1 (hm.mp h).1)]
      simp only [List.append_nil]
      by_cases c2 : q % 2 = 0
      · refine ⟨m, ?_⟩
        have e : q = 2 * (q / 2) := by omega
        rw [e, unq_rep_even, unq_as]
        have : 2 * (q / 2) / 2 = q / 2 := by omega
        rw [this]
      · refine ⟨0, ?_⟩
        have e : q = 2 * (q / 2) + 1 := by omega
        rw [e, unq_rep_odd _ _ (by
          intro c' r' hh
          cases m with
          | zero => simp at hh
          | succ m => rw [List.replicate_succ] at hh; simp at hh; rw [← hh.1]; decide)]
        have : (2 * (q / 2) + 1) / 2 = q / 2 := by omega
        rw [this]
        simp

theorem loop_le (t : Int) : ∀ ps : List (Int × List Nat), (∀ p ∈ ps, PGood p) → ((loopL t ps).length : Int) ≤ (ps.map fun p => p.1 + 1).sum
  | [], _ => by simp [loopL]
  | (n, x) :: ps, h => by
    have h0 := h (n, x) List.mem_cons_self
    obtain ⟨c, hx, hc⟩ := h0.one
    have hlo : 0 ≤ n := h0.lo
    simp only at hx
    subst hx
    have ih := loop_le t ps fun p hp => h p (.tail _ hp)
    have hP : 0 < (2 : Int) ^ t.toNat := Int.pow_pos (by decide)
    have h1 : n / 2 ^ t.toNat ≤ n := Int.ediv_le_self _ hlo
    have h2 : 0 ≤ n / 2 ^ t.toNat := Int.ediv_nonneg hlo (Int.le_of_lt hP)
    have h3 : (0 : Int) ≤ ((loopL t ps).length : Int) := by omega
    simp only [loopL, List.map_cons, List.sum_cons, List.length_append, List.length_replicate]
    split
    · simp only [List.length_append, List.length_cons, List.length_nil]; omega
    · simp only [List.length_nil]; omega
theorem loop_sign (t : Int) : ∀ ps : List (Int × List Nat), (∀ p ∈ ps, PGood p) → ∀ c ∈ loopL t ps, valN c < 64
  | [], _, c, hc => by simp [loopL] at hc
  | (n, x) :: ps, h, c, hc => by
    have h0 := h (n, x) List.mem_cons_self
    obtain ⟨d, hx, hd⟩ := h0.one
    simp only at hx
    subst hx
    have ih := loop_sign t ps fun p hp => h p (.tail _ hp)
    simp only [loopL, List.mem_append] at hc
    rcases hc with hc | hc
    · rw [(List.mem_replicate.mp hc).2]; decide
    · split at hc
      · rcases List.mem_append.mp hc with hc | hc
        · rw [List.mem_singleton.mp hc]; omega
        · exact ih c hc
      · simp at hc
def szOf (ps : List (Int × List Nat)) : Int := tot ps + (-(tot ps)).fmod 4
theorem sz_facts (ps : List (Int × List Nat)) : szOf ps % 4 = 0 ∧ tot ps ≤ szOf ps ∧ szOf ps ≤ tot ps + 3 := by
  unfold szOf
  rw [Int.fmod_eq_emod_of_nonneg _ (by decide)]
  omega
theorem tot_ge : ∀ ps : List (Int × List Nat), (∀ p ∈ ps, PGood p) → 0 ≤ (ps.map fun p => p.1 + 1).sum ∧ (ps.map fun p => p.1 + 1).sum ≤ 20 * (ps.length : Int)
  | [], _ => by simp
  | p :: ps, h => by
    have h0 := h p List.mem_cons_self
    have ih := tot_ge ps fun p hp => h p (.tail _ hp)
    have := h0.lo
    have := h0.hi
    simp only [List.map_cons, List.sum_cons, List.length_cons]
    omega
def leftS (t : Int) (ps : List (Int × List Nat)) : PySem.Str := ⟨(leftL t (szOf ps) ps).toArray⟩
def restL (t : Int) (ps : List (Int × List Nat)) : List Nat := loopL t ps ++ List.replicate (szOf ps - 5 - (loopL t ps).length).toNat 65
theorem leftL_eq (t : Int) (ps : List (Int × List Nat)) : leftL t (szOf ps) ps = [50, 53, 55, 32, 34] ++ restL t ps := by
  unfold leftL restL
  simp only [List.append_assoc]
  congr 3
  simp only [List.length_append, List.length_cons, List.length_nil]
  omega
theorem rest_len (t : Int) {ps : List (Int × List Nat)} (h : ∀ p ∈ ps, PGood p) : ((restL t ps).length : Int) = szOf ps - 5 := by
  have h1 := loop_le t ps h
  have h2 := sz_facts ps
  unfold restL
  simp only [List.length_append, List.length_replicate]
  unfold tot at h2
  omega
theorem left_good (t : Int) {ps : List (Int × List Nat)} (h : ∀ p ∈ ps, PGood p) (hl : ps.length ≤ 8) : Good (leftS t ps) := by
  have h1 := rest_len t h
  have h2 := sz_facts ps
  have h3 := tot_ge ps h
  have hs : (leftS t ps).cps.size = 5 + (restL t ps).length := by
    show (leftL t (szOf ps) ps).toArray.size = _
    rw [List.size_toArray, leftL_eq]; simp; omega
  unfold tot at h2
  refine ⟨fun c hc => ?_, by rw [hs]; omega, by rw [hs]; omega, by rw [hs]; omega⟩
  have hc' : c ∈ leftL t (szOf ps) ps := by simpa [leftS] using hc
  rw [leftL_eq] at hc'
  unfold restL at hc'
  simp only [List.mem_append] at hc'
  rcases hc' with hc' | hc' | hc'
  · revert hc'
    have : ∀ c ∈ [50, 53, 55, 32, 34], valN c < 64 := by decide
    exact this c
  · exact loop_sign t ps h c hc'
  · rw [(List.mem_replicate.mp hc').2]; decide
theorem left_cps (t : Int) (ps : List (Int × List Nat)) : (leftS t ps).cps.toList = [50, 53, 55, 32, 34] ++ restL t ps := by
  show (leftL t (szOf ps) ps).toArray.toList = _
  rw [← leftL_eq]
/-- the heart: what parse257 tells of a reply, filled up, is the next reply -/
theorem step_eq (t : Nat) {ps : List (Int × List Nat)} (h : ∀ p ∈ ps, PGood p) :
    PySem.Str.ofString "257 \"" ++ (⟨(unq (restL t ps)).toArray⟩ : PySem.Str) ++ Txt.mul (PySem.Str.ofString "A") (szOf ps - 5 - (((⟨(unq (restL t ps)).toArray⟩ : PySem.Str).length : Nat) : Int)) = leftS ((t : Int) + 1) ps := by
  obtain ⟨m', hm⟩ := loop_unq t (szOf ps - 5 - (loopL t ps).length).toNat ps h
  have e0 : unq (restL t ps) = loopL ((t : Int) + 1) ps ++ List.replicate m' 65 := hm
  have h1 := unq_len (restL t ps)
  have h2 := rest_len t h
  have e1 : (⟨(unq (restL t ps)).toArray⟩ : PySem.Str).length = (unq (restL t ps)).length := by show (unq (restL t ps)).toArray.size = _; simp
  apply PySem.Str.ext'
  apply Array.ext'
  rw [left_cps, a_str, PySem.Str.cps_append, PySem.Str.cps_append, Array.toList_append, Array.toList_append, mul_cps, head_str, e1]
  show _ ++ (unq (restL t ps)).toArray.toList ++ _ = _
  rw [e0] at h1 ⊢
  simp only [List.length_append, List.length_replicate] at h1
  unfold restL
  simp only [List.append_assoc, List.length_append, List.length_replicate]
  congr 2
  rw [← List.replicate_append_replicate.symm]
  congr 1
  omega
theorem asc_dec {x : PySem.Str} (h : Good x) : (⟨(asc x).map fun c => c.toNat⟩ : PySem.Str) = x := by
  apply PySem.Str.ext'
  apply Array.ext'
  show ((asc x).map fun c => c.toNat).toList = _
  unfold asc
  simp only [Array.toList_map, List.map_map]
  refine (List.map_congr_left (g := _root_.id) fun c hc => ?_).trans (List.map_id _)
  have := valN_lt (h.sign c (Array.mem_toList_iff.mp hc))
  show c.toUInt8.toNat = c
  simp [Nat.toUInt8]
  omega
theorem asc_ascii {x : PySem.Str} (h : Good x) : ∀ c ∈ asc x, c.toNat < 128 := by
  intro c hc
  unfold asc at hc
  obtain ⟨d, hd, rfl⟩ := Array.mem_map.mp hc
  have := valN_lt (h.sign d hd)
  show d.toUInt8.toNat < 128
  simp [Nat.toUInt8]
  omega
end Mine


-- part B13
namespace Mine

theorem execs_app {env : Env} : ∀ (a b : List Stmt), execs (a ++ b) env = (execs a env >>= fun f => match f with | .next => execs b env | f => pure f)
  | [], b => by
    show execs b env = (pure Flow.next >>= _)
    rw [pure_bind]
  | s :: a, b => by
    rw [List.cons_append, execs_cons, execs_cons, bind_assoc]
    congr 1
    funext f
    cases f with
    | next => exact execs_app a b
    | brk => show pure _ = (pure _ >>= _); rw [pure_bind]
    | cont => show pure _ = (pure _ >>= _); rw [pure_bind]
    | ret v => show pure _ = (pure _ >>= _); rw [pure_bind]
theorem execs_three {M : Model} {A : Around} {E : Value → Shared → Prop} {s : Shared} {env : Env} {s1 s2 s3 : Stmt} {rest : List Stmt} {Q Φ : Flow → Shared → Prop}
    (h : wpAny M A (execs [s1, s2, s3] env) Φ E s) (hn : ∀ f s', Φ f s' → f = .next ∧ wpAny M A (execs rest env) Q E s') : wpAny M A (execs (s1 :: s2 :: s3 :: rest) env) Q E s := by
  show wpAny M A (execs ([s1, s2, s3] ++ rest) env) Q E s
  rw [execs_app]
  refine wpAny_bind (wpAny_mono h (fun f s' p => ?_) fun _ _ e => e)
  obtain ⟨rfl, q⟩ := hn f s' p
  exact q

/-- what stands behind the first four statements -/
def Mid (h₀ : Heap) (L : Addr) (s : Shared) (s' : Shared) : Prop :=
  ∃ (rs : List Run) (l : Addr) (ep : Nat) (tz : Tok) (h' : Heap) (tk' : Nat) (led : List (Addr × Obj)) (u : PySem.Str → Option Value),
    s' = { s with heap := h', toks := tk' } ∧ Fr h₀ L h' (fun y => if y = PySem.Str.ofString "runs" then some (.ref l) else if y = PySem.Str.ofString "size" then some (.int (szOf (rs.map Run.plain)) tz) else u y) ∧ News h₀ L h' led ∧
    (l, W.listOf (rs.map fun r => Value.ref r.1).toArray ep) ∈ led ∧ (∀ r ∈ rs, (r.1, Run.obj r) ∈ led) ∧ (∀ r ∈ rs, PGood r.plain) ∧ rs.length ≤ 8
def MidF (h₀ : Heap) (L : Addr) (s : Shared) (f : Flow) (s' : Shared) : Prop := f = .next ∧ Mid h₀ L s s'
theorem three_mid {M : Model} {A : Around} {E : Value → Shared → Prop} {s : Shared} {env : Env} {s1 s2 s3 : Stmt} {rest : List Stmt} {Q : Flow → Shared → Prop} {h₀ : Heap} {L : Addr} {led : List (Addr × Obj)} (_ : News h₀ L s.heap led)
    (h : wpAny M A (execs [s1, s2, s3] env) (MidF h₀ L s) E s) (hn : ∀ s', Mid h₀ L s s' → wpAny M A (execs rest env) Q E s') : wpAny M A (execs (s1 :: s2 :: s3 :: rest) env) Q E s :=
  execs_three h fun _ s' p => ⟨p.1, hn s' p.2⟩

theorem call_decode_asc {prog : Program} {w : World} {A : Around} {E : Value → Shared → Prop} {s : Shared} {x : PySem.Str} {t t' : Tok} {Q : Value → Shared → Prop} (h : Good x) (hq : ∀ u k, Q (.str x u) { s with toks := k }) :
    wpAny (model prog w) A (call (.builtin "bytes.decode") [.bytes (asc x) t, .str (PySem.Str.ofString "ascii") t']) Q E s := by
  have hz : (asc x).size = x.cps.size := by simp [asc]
  refine call_decode (by rw [hz]; exact h.pos) (asc_ascii h) (by rw [hz]; exact Nat.le_trans h.room (by decide)) fun u k => ?_
  rw [asc_dec h]
  exact hq u k
theorem p257L (w : World) (t : Int) (ps : List (Int × List Nat)) (h : ∀ p ∈ ps, PGood p) (hl : ps.length ≤ 8) (tk : Tok) : Says w 2 53 True [.str (leftS t ps) tk] [] (fun t' => .str ⟨(unq (restL t ps)).toArray⟩ t') := by
  have := p257 w (leftS t ps) (restL t ps) tk
  unfold Says at this ⊢
  intro mean mg mb news dp un gd cn cs a ccd cl outer A₀ base h₀ L m s Q E h1 h2 h3 h4 h5 h6 _ h8 h9 h10
  exact this mean mg mb news dp un gd cn cs a ccd cl outer A₀ base h₀ L m s Q E h1 h2 h3 h4 h5 h6 ⟨left_cps t ps, Nat.le_trans (left_good t h hl).room (by decide)⟩ h8 h9 h10
theorem dec64L (w : World) (t : Nat) (ps : List (Int × List Nat)) (h : ∀ p ∈ ps, PGood p) (hl : ps.length ≤ 8) (tk tk' : Tok) :
    Says w 4 134 True [.str (PySem.Str.ofString "257 \"" ++ (⟨(unq (restL t ps)).toArray⟩ : PySem.Str) ++ Txt.mul (PySem.Str.ofString "A") (szOf ps - 5 - (((⟨(unq (restL t ps)).toArray⟩ : PySem.Str).length : Nat) : Int))) tk, .bytes #[32, 34] tk'] [] (fun t' => .bytes (oct (leftS ((t : Int) + 1) ps)) t') := by
  rw [step_eq t h]
  have := dec64 w (leftS ((t : Int) + 1) ps) tk tk'
  unfold Says at this ⊢
  intro mean mg mb news dp un gd cn cs a ccd cl outer A₀ base h₀ L m s Q E h1 h2 h3 h4 h5 h6 _ h8 h9 h10
  exact this mean mg mb news dp un gd cn cs a ccd cl outer A₀ base h₀ L m s Q E h1 h2 h3 h4 h5 h6 (left_good _ h hl) h8 h9 h10
theorem name_len (t : Int) {ps : List (Int × List Nat)} (h : ∀ p ∈ ps, PGood p) (hl : ps.length ≤ 8) : (⟨(unq (restL t ps)).toArray⟩ : PySem.Str).length ≤ 200 := by
  have h1 := unq_len (restL t ps)
  have h2 := rest_len t h
  have h3 := sz_facts ps
  have h4 := tot_ge ps h
  unfold tot at h3
  have e1 : (⟨(unq (restL t ps)).toArray⟩ : PySem.Str).length = (unq (restL t ps)).length := by show (unq (restL t ps)).toArray.size = _; simp
  omega
theorem leftG {w : World} (rs : List Run) {l : Addr} {ep : Nat} {times : Int} {tt ts : Tok}
  {mean : ExcName → Option Value} {mg mb : PySem.Str → Option Value} {news : List (Addr × Obj)}
    {dp un : Nat} {gd : Option (List Code)} {cn : PySem.Str} {cs : Scope} {a : Addr} {ccd : Value} {cl : List (PySem.Str × Addr)} {outer : List Env} {A₀ : Around} {base h₀ : Heap} {L : Addr} {m : PySem.Str → Option Value} {s : Shared} {Q E : Value → Shared → Prop}
    (hBelow : Below A₀ base outer h₀) (hFr : Fr h₀ L s.heap m) (hIn : Frag.In (Mine.hd.heap_39 w.params) h₀) (hNews : News h₀ L s.heap news)
    (hTop : Top Mine.hd.view_39
      (looseW Mine.hd.view_39 [Str.ofString "Error_ftplib", Str.ofString "bytes_types", Str.ofString "Error_binascii", Str.ofString "a2b_base64", Str.ofString "b2a_base64", Str.ofString "b64encode", Str.ofString "b64decode"])
      mean mg mb h₀) (hk : cs.kind = .function)
    (hl : (l, W.listOf (rs.map fun r => Value.ref r.1).toArray ep) ∈ news) (hm : ∀ r ∈ rs, (r.1, Run.obj r) ∈ news)
    (hg : ∀ r ∈ rs, PGood r.plain) (h8 : rs.length ≤ 8) (ht0 : 0 ≤ times) (ht5 : times ≤ 5)
    (hd : dp + 2 < recursionLimit) (hu : un + 8 * 2 < cLine)
    (hret : ∀ (t : Tok) (h' : Heap) (tk' : Nat), Fr h₀ L h' m → News h₀ L h' news → Q (.str (leftS times (rs.map Run.plain)) t) { s with heap := h', toks := tk' }) :
    wpAny (model Challenge.rw_pa0028_01.row.prog w) (ktrTop dp un gd cn cs L a ccd cl outer) (call (.ref 153) [.ref l, .int times tt, .int (szOf (rs.map Run.plain)) ts]) Q E s := by
  have hg' : ∀ p ∈ rs.map Run.plain, PGood p := by intro p hp; obtain ⟨r, hr, rfl⟩ := List.mem_map.mp hp; exact hg r hr
  have h1 := sz_facts (rs.map Run.plain)
  have h2 := tot_ge (rs.map Run.plain) hg'
  rw [List.length_map] at h2
  unfold tot at h1
  refine left rs hBelow hFr hIn hNews hTop hk hl hm (fun r hr => ?_) h8 ht0 ht5 (by omega) (by omega) hd hu hret
  obtain ⟨c, hc, _⟩ := (hg r hr).one
  exact ⟨(hg r hr).lo, (hg r hr).hi, by
    have hc' : r.2.2.2.1.cps.toList = [c] := hc
    show r.2.2.2.1.cps.size = 1
    rw [← Array.length_toList, hc']; rfl⟩

def runPlain (k : Int) : Int × List Nat := (runLen k, (runSign k).cps.toList)
section
variable {prog : Program} {w : World} {A : Around} {h₀ : Heap} {L : Addr} {m : PySem.Str → Option Value} {env : Env} {elt : PySem.Expr} {x x₂ : PySem.Str} {scope : Scope} {cl : List (PySem.Str × Addr)} {s : Shared} {Fin : List Value → List (Addr × Obj) → Prop} {news : List (Addr × Obj)} {ax : Addr}

def RunEnd (h₀ : Heap) (L : Addr) (m : PySem.Str → Option Value) (s : Shared) (led : List (Addr × Obj)) (k : Int) (y : Value) (s₂ : Shared) : Prop :=
  ∃ (h' : Heap) (tk' : Nat) (r : Run), s₂ = { s with heap := h', toks := tk' } ∧ Fr h₀ L h' m ∧ News h₀ L h' ((r.1, Run.obj r) :: led) ∧ (∀ p ∈ led, p.1 < r.1) ∧ y = .ref r.1 ∧ r.plain = runPlain k

theorem run_rest {ks : List Int} {vs : List Value} (hi : IntsAre vs ks) (hb : ∀ k ∈ ks, 0 ≤ k ∧ k < 1000000) (hS : LCg.SrcAt h₀ ax vs.toArray news)
    (turn : ∀ k t I oI C oC D m₂ ys h tk (E' : Value → Shared → Prop) (led : List (Addr × Obj)), 0 ≤ k → k < 1000000 → LCg.NsObj oC m₂ → m₂ x = some (.int k t) → Fr h₀ L h m → News h₀ L h ((I, oI) :: (C, oC) :: (D, LCg.lst ys) :: led) →
      wpAny (model prog w) A (eval elt (compEnvC scope cl C env)) (RunEnd h₀ L m { s with heap := h, toks := tk } ((I, oI) :: (C, oC) :: (D, LCg.lst ys) :: led) k) E' { s with heap := h, toks := tk })
    (fin : ∀ (rs : List Run) (led : List (Addr × Obj)), (∀ r ∈ rs, (r.1, Run.obj r) ∈ led) → (∀ p ∈ news, p ∈ led) → rs.map Run.plain = ks.map runPlain → Fin (rs.map fun r => Value.ref r.1) led) :
    LCg.CompRest prog w A h₀ L m env elt x scope cl s (LCg.SrcAt h₀ ax vs.toArray) (fun i v => vs.toArray[i]? = some v) Fin vs.toArray.size 0 [] news := by
  have key : ∀ (j i : Nat) (rs : List Run) (led : List (Addr × Obj)), i + j = ks.length → (∀ r ∈ rs, (r.1, Run.obj r) ∈ led) → (∀ p ∈ news, p ∈ led) → rs.map Run.plain = (ks.take i).map runPlain →
      LCg.CompRest prog w A h₀ L m env elt x scope cl s (LCg.SrcAt h₀ ax vs.toArray) (fun i v => vs.toArray[i]? = some v) Fin j i (rs.map fun r => Value.ref r.1) led := by
    intro j
    induction j with
    | zero =>
      intro i rs led hij hm hs hp
      have e : i = ks.length := by omega
      subst e
      rw [List.take_length] at hp
      exact LCg.CompRest.zero (fin rs led hm hs hp)
    | succ j ih =>
      intro i rs led hij hm hs hp
      refine LCg.CompRest.succ ?_
      intro v I oI C oC D m₂ h tk E' hv hC hx F N off ne
      obtain ⟨k, t, e, hk⟩ := IntsAre.at hi i v (by simpa using hv)
      subst e
      have hkb := hb k (List.mem_of_getElem? hk)
      refine wpAny_mono (turn k t I oI C oC D m₂ _ h tk E' led hkb.1 hkb.2 hC hx F N) (fun y s₂ hq => ?_) fun _ _ e => e
      obtain ⟨h', tk', r, e, F', N', hlt, hy, hpl⟩ := hq
      refine ⟨h', tk', (r.1, Run.obj r) :: led, e, F', fun p hp => N' p ?_, LCg.Off3.of fun p hp => ?_, ?_, ?_⟩
      · simp only [List.mem_cons] at hp ⊢
        rcases hp with h1 | h1 | h1 | h1 | h1
        · exact .inr (.inl h1)
        · exact .inr (.inr (.inl h1))
        · exact .inr (.inr (.inr (.inl h1)))
        · exact .inl h1
        · exact .inr (.inr (.inr (.inr h1)))
      · rcases List.mem_cons.mp hp with rfl | hp
        · exact ⟨Nat.ne_of_gt (hlt (I, oI) (by simp)), Nat.ne_of_gt (hlt (C, oC) (by simp)), Nat.ne_of_gt (hlt (D, LCg.lst (rs.map fun r => Value.ref r.1)) (by simp))⟩
        · exact off.mem p hp
      · rcases hS with h1 | ⟨o, h1, h2⟩
        · exact .inl h1
        · exact .inr ⟨o, .tail _ (hs _ h1), h2⟩
      · subst hy
        have := ih (i + 1) (rs ++ [r]) ((r.1, Run.obj r) :: led) (by omega) (fun q hq => by
          rcases List.mem_append.mp hq with hq | hq
          · exact .tail _ (hm q hq)
          · rw [List.mem_singleton.mp hq]; exact .head _) (fun p hp => .tail _ (hs p hp)) (by rw [List.map_append, hp, List.take_add_one, hk]; simp [hpl])
        rw [List.map_append] at this
        exact this
  have hl := hi.length
  have := key vs.toArray.size 0 [] news (by simp [hl]) (by simp) (fun p hp => hp) (by simp)
  exact this

def SumEnd (h₀ : Heap) (L : Addr) (m : PySem.Str → Option Value) (s : Shared) (led : List (Addr × Obj)) (n : Int) (y : Value) (s₂ : Shared) : Prop :=
  ∃ (h' : Heap) (tk' : Nat) (t : Tok), s₂ = { s with heap := h', toks := tk' } ∧ Fr h₀ L h' m ∧ News h₀ L h' led ∧ y = .int n t
theorem pair_rest {rs : List Run} (hm : ∀ r ∈ rs, (r.1, Run.obj r) ∈ news) (hS : LCg.SrcAt h₀ ax (rs.map fun r => Value.ref r.1).toArray news)
    (turn : ∀ n t₁ y t₂ I oI C oC D m₂ ys h tk (E' : Value → Shared → Prop), LCg.NsObj oC m₂ → m₂ x = some (.int n t₁) → m₂ x₂ = some (.str y t₂) → Fr h₀ L h m → News h₀ L h ((I, oI) :: (C, oC) :: (D, LCg.lst ys) :: news) →
      wpAny (model prog w) A (eval elt (compEnvC scope cl C env)) (SumEnd h₀ L m { s with heap := h, toks := tk } ((I, oI) :: (C, oC) :: (D, LCg.lst ys) :: news) (n + 1)) E' { s with heap := h, toks := tk })
    (fin : ∀ ys, IntsAre ys (rs.map fun r => r.2.1 + 1) → Fin ys news) :
    LCp.CompRestP prog w A h₀ L m env elt x x₂ scope cl s (LCg.SrcAt h₀ ax (rs.map fun r => Value.ref r.1).toArray) (fun i v => (rs.map fun r => Value.ref r.1).toArray[i]? = some v) Fin (rs.map fun r => Value.ref r.1).toArray.size 0 [] news := by
  have key : ∀ (j i : Nat) (ys : List Value), i + j = rs.length → IntsAre ys ((rs.take i).map fun r => r.2.1 + 1) →
      LCp.CompRestP prog w A h₀ L m env elt x x₂ scope cl s (LCg.SrcAt h₀ ax (rs.map fun r => Value.ref r.1).toArray) (fun i v => (rs.map fun r => Value.ref r.1).toArray[i]? = some v) Fin j i ys news := by
    intro j
    induction j with
    | zero =>
      intro i ys hij hy
      have e : i = rs.length := by omega
      subst e
      rw [List.take_length] at hy
      exact LCp.CompRestP.zero (fin ys hy)
    | succ j ih =>
      intro i ys hij hy
      refine LCp.CompRestP.succ ?_
      intro v hv
      have hlt : i < rs.length := by omega
      have hv' : v = .ref rs[i].1 := by
        have : (rs.map fun r => Value.ref r.1)[i]? = some v := by simpa using hv
        simpa [hlt] using this.symm
      refine ⟨rs[i].1, Run.obj rs[i], .int rs[i].2.1 rs[i].2.2.1, .str rs[i].2.2.2.1 rs[i].2.2.2.2, 0, hv', hm _ (List.getElem_mem hlt), rfl, rfl, ?_⟩
      intro I oI C oC D m₂ h tk E' hC hx hx2 F N off ne
      refine wpAny_mono (turn _ _ _ _ I oI C oC D m₂ ys h tk E' hC hx hx2 F N) (fun y s₂ hq => ?_) fun _ _ e => e
      obtain ⟨h', tk', t, e, F', N', hy'⟩ := hq
      refine ⟨h', tk', news, e, F', N', off, hS, ?_⟩
      rw [hy']
      refine ih (i + 1) _ (by omega) ?_
      have hg : rs[i]? = some rs[i] := List.getElem?_eq_getElem hlt
      rw [List.take_add_one, hg, List.map_append]
      exact IntsAre.append hy (.cons (rs[i].2.1 + 1) t .nil)
  have := key (rs.map fun r => Value.ref r.1).toArray.size 0 [] (by simp) (by simp only [List.take_zero, List.map_nil]; exact .nil)
  exact this
end

theorem sign_at : ∀ i < 63, ∃ c, Txt.item signs63 (i : Nat) = ⟨#[c]⟩ ∧ valN c < 63 := by
  intro i hi
  have h : ∀ i < 63, valN ((Txt.charAt signs63 (i : Nat)).getD 0) < 63 := by decide +kernel
  exact ⟨(Txt.charAt signs63 (i : Nat)).getD 0, rfl, h i hi⟩
theorem run_good {k : Int} (h0 : 0 ≤ k) : PGood (runPlain k) := by
  have hf : 0 ≤ (k.fdiv 504).fmod 20 ∧ (k.fdiv 504).fmod 20 ≤ 19 := by rw [Int.fmod_eq_emod_of_nonneg _ (by decide)]; omega
  have hl : 0 ≤ runLen k ∧ runLen k ≤ 19 := by
    unfold runLen
    generalize (k.fdiv 504).fmod 20 = z at hf
    have h8 : (k.fmod 8).toNat < 8 := by rw [Int.fmod_eq_emod_of_nonneg _ (by decide)]; omega
    generalize (k.fmod 8).toNat = j at h8
    have : j = 0 ∨ j = 1 ∨ j = 2 ∨ j = 3 ∨ j = 4 ∨ j = 5 ∨ j = 6 ∨ j = 7 := by omega
    rcases this with rfl | rfl | rfl | rfl | rfl | rfl | rfl | rfl <;> simp <;> omega
  refine ⟨hl.1, hl.2, ?_⟩
  have hi : 0 ≤ (k.fdiv 8).fmod 63 ∧ (k.fdiv 8).fmod 63 < 63 := by rw [Int.fmod_eq_emod_of_nonneg _ (by decide)]; omega
  obtain ⟨c, hc, hv⟩ := sign_at ((k.fdiv 8).fmod 63).toNat (by omega)
  refine ⟨c, ?_, hv⟩
  show (runSign k).cps.toList = [c]
  unfold runSign
  rw [show (k.fdiv 8).fmod 63 = ((((k.fdiv 8).fmod 63).toNat : Nat) : Int) from by omega, hc]

theorem mk_runs {h₀ h : Heap} {L Lr a1 a2 a3 a4 a5 : Addr} {t1 t2 t3 t4 t5 u1 u2 u3 u4 u5 : Tok} {q : Addr × Obj} {rest : List (Addr × Obj)} {rs : List Run} {ks : List Int}
    (N : News h₀ L h ((Lr, ({ cls := .type "list", data := .seq (rs.map (fun r => Value.ref r.1) ++ [Value.ref a1, Value.ref a2, Value.ref a3, Value.ref a4, Value.ref a5]).toArray } : Obj)) :: q :: (a5, ({ cls := .type "tuple", data := .seq #[.int 3 t5, .str (PySem.Str.ofString "e") u5] } : Obj)) :: (a4, ({ cls := .type "tuple", data := .seq #[.int 6 t4, .str (PySem.Str.ofString "D") u4] } : Obj)) :: (a3, ({ cls := .type "tuple", data := .seq #[.int 4 t3, .str (PySem.Str.ofString "x") u3] } : Obj)) :: (a2, ({ cls := .type "tuple", data := .seq #[.int 12 t2, .str (PySem.Str.ofString " ") u2] } : Obj)) :: (a1, ({ cls := .type "tuple", data := .seq #[.int 8 t1, .str (PySem.Str.ofString "B") u1] } : Obj)) :: rest))
    (hm : ∀ r ∈ rs, (r.1, Run.obj r) ∈ rest) (hp : rs.map Run.plain = ks.map runPlain) (hkb : ∀ k ∈ ks, 0 ≤ k ∧ k < 1000000) (hk3 : ks.length ≤ 3) :
    ∃ (RS : List Run) (led : List (Addr × Obj)), News h₀ L h led ∧ (Lr, W.listOf (RS.map fun r => Value.ref r.1).toArray 0) ∈ led ∧ (∀ r ∈ RS, (r.1, Run.obj r) ∈ led) ∧ (∀ r ∈ RS, PGood r.plain) ∧ RS.length ≤ 8 := by
  refine ⟨rs ++ [(a1, 8, t1, PySem.Str.ofString "B", u1), (a2, 12, t2, PySem.Str.ofString " ", u2), (a3, 4, t3, PySem.Str.ofString "x", u3), (a4, 6, t4, PySem.Str.ofString "D", u4), (a5, 3, t5, PySem.Str.ofString "e", u5)], _, N, ?_, ?_, ?_, ?_⟩
  · rw [List.map_append]; exact .head _
  · intro r hr
    rcases List.mem_append.mp hr with hr | hr
    · exact .tail _ (.tail _ (.tail _ (.tail _ (.tail _ (.tail _ (.tail _ (hm r hr)))))))
    · simp only [List.mem_cons, List.not_mem_nil, or_false] at hr
      rcases hr with rfl | rfl | rfl | rfl | rfl
      · exact .tail _ (.tail _ (.tail _ (.tail _ (.tail _ (.tail _ (.head _))))))
      · exact .tail _ (.tail _ (.tail _ (.tail _ (.tail _ (.head _)))))
      · exact .tail _ (.tail _ (.tail _ (.tail _ (.head _))))
      · exact .tail _ (.tail _ (.tail _ (.head _)))
      · exact .tail _ (.tail _ (.head _))
  · intro r hr
    rcases List.mem_append.mp hr with hr | hr
    · have h1 : r.plain ∈ ks.map runPlain := by rw [← hp]; exact List.mem_map_of_mem hr
      obtain ⟨k, hk, e⟩ := List.mem_map.mp h1
      rw [← e]
      exact run_good (hkb k hk).1
    · simp only [List.mem_cons, List.not_mem_nil, or_false] at hr
      rcases hr with rfl | rfl | rfl | rfl | rfl
      · exact ⟨(by decide : (0 : Int) ≤ 8), (by decide : (8 : Int) ≤ 19), ⟨66, (by decide +kernel : (PySem.Str.ofString "B").cps.toList = [66]), by decide⟩⟩
      · exact ⟨(by decide : (0 : Int) ≤ 12), (by decide : (12 : Int) ≤ 19), ⟨32, (by decide +kernel : (PySem.Str.ofString " ").cps.toList = [32]), by decide⟩⟩
      · exact ⟨(by decide : (0 : Int) ≤ 4), (by decide : (4 : Int) ≤ 19), ⟨120, (by decide +kernel : (PySem.Str.ofString "x").cps.toList = [120]), by decide⟩⟩
      · exact ⟨(by decide : (0 : Int) ≤ 6), (by decide : (6 : Int) ≤ 19), ⟨68, (by decide +kernel : (PySem.Str.ofString "D").cps.toList = [68]), by decide⟩⟩
      · exact ⟨(by decide : (0 : Int) ≤ 3), (by decide : (3 : Int) ≤ 19), ⟨101, (by decide +kernel : (PySem.Str.ofString "e").cps.toList = [101]), by decide⟩⟩
  · have := congrArg List.length hp
    simp at this
    simp
    omega
theorem md_eq {l : Addr} {z : Int} {tz : Tok} {m : PySem.Str → Option Value} (h1 : m (PySem.Str.ofString "runs") = some (.ref l)) (h2 : m (PySem.Str.ofString "size") = some (.int z tz)) :
    m = fun y => if y = PySem.Str.ofString "runs" then some (.ref l) else if y = PySem.Str.ofString "size" then some (.int z tz) else m y := by
  funext y
  by_cases e1 : y = PySem.Str.ofString "runs"
  · rw [if_pos e1, e1, h1]
  · rw [if_neg e1]
    by_cases e2 : y = PySem.Str.ofString "size"
    · rw [if_pos e2, e2, h2]
    · rw [if_neg e2]
theorem mid_of {h₀ h' : Heap} {L l : Addr} {s : Shared} {RS : List Run} {ep : Nat} {z : Int} {tz : Tok} {tk' : Nat} {led led' : List (Addr × Obj)} {m : PySem.Str → Option Value} (F : Fr h₀ L h' m) (N : News h₀ L h' led')
    (h1 : m (PySem.Str.ofString "runs") = some (.ref l)) (h2 : m (PySem.Str.ofString "size") = some (.int z tz)) (ez : z = szOf (RS.map Run.plain)) (hsub : ∀ p ∈ led, p ∈ led')
    (hl : (l, W.listOf (RS.map fun r => Value.ref r.1).toArray ep) ∈ led) (hm : ∀ r ∈ RS, (r.1, Run.obj r) ∈ led) (hg : ∀ r ∈ RS, PGood r.plain) (h8 : RS.length ≤ 8) : MidF h₀ L s .next { s with heap := h', toks := tk' } := by
  subst ez
  exact ⟨rfl, RS, l, ep, tz, h', tk', led', m, rfl, (md_eq h1 h2) ▸ F, N, hsub _ hl, fun r hr => hsub _ (hm r hr), hg, h8⟩
theorem tot_eq (RS : List Run) : tot (RS.map Run.plain) = 5 + (RS.map fun r => r.2.1 + 1).sum := by
  unfold tot
  rw [List.map_map]
  rfl

theorem ks_of {ys : List Value} {ns : List Int} (h : IntsAre ys (List.map (fun k' : Int => k'.fmod (10 ^ Int.toNat 6)) (List.take 3 ns))) : ∃ ks, IntsAre ys ks ∧ (∀ k ∈ ks, 0 ≤ k ∧ k < 1000000) ∧ ks.length ≤ 3 := by
  refine ⟨_, h, fun k hk => ?_, by simp; omega⟩
  obtain ⟨z, _, rfl⟩ := List.mem_map.mp hk
  rw [Int.fmod_eq_emod_of_nonneg _ (by decide), show ((10 : Int) ^ Int.toNat 6) = 1000000 from by decide]; omega

theorem holds : PySem.Challenge.rw_pa0028_01.Holds := by
  refine Mine.hd ?_
  k_with_none
  k_go0
  (all_goals try k_fold)
  k_with "execs cons" => ((with_reducible show wpAny _ _ (execs [_, _, _, _, _, _] _) _ _ _); refine Stop.out ?_)
  k_steps
  unfold Stop
  k_with_none
  rename News _ _ _ _ => lN
  refine three_mid lN ?_ ?_
  · rename IntsAre ys _ => hYs
    obtain ⟨ks, hYk, hkb, hk3⟩ := ks_of hYs
    have hyl : ys.length ≤ 3 := by rw [IntsAre.length hYk]; exact hk3
    try k_fold
    k_with "exec Assign cons BinOp" => (refine Stop.out ?_)
    k_steps
    unfold Stop
    k_with_none
    walk1
    walk1
    k_here
    k_dflt (refine LCg.ListComp_U (F₀ := by k_asm) (by with_unfolding_all rfl) (by decide) (by rfl) (by decide) (by rfl) ?_)
    walk1
    rename News _ _ _ _ => lN2
    k_here
    k_dflt (refine LCg.CompSrc.ledger (by rfl) (by k_asm) lN2 (by k_mem) (by rw [PySem.sizeLine_eq]; simp; omega) ?_)
    intro g9
    refine run_rest hYk hkb ?_ ?_ ?_
    · exact .inr ⟨_, List.Mem.head _, rfl, _, rfl⟩
    · clear lN2
      intro k t I oI C oC D m₂ ys' h tk E' led hk0 hk1 hC hx F N
      k_with "call ref cons nil" => (k_here; k_dflt (refine' Mine.run ?k1 ?k2 ?k3 ?k4 ?k5 ?kK ?kn0 ?kn1 ?kd ?ku ?_; (case k1 => k_asm); (case k2 => k_asm); (case k3 => k_asm); (case k4 => k_asm); (case k5 => k_asm); (case kK => exact rfl); (case kn0 => omega); (case kn1 => omega); (case kd => ktr_room); (case ku => ktr_units)); intro r9 t9 u9 h9 tk9 F9 N9 l9; (try dsimp only); (try k_fold))
      try k_fold
      k_steps
      exact ⟨_, _, (r9, runLen k, t9, runSign k, u9), rfl, F9, N9, l9, rfl, rfl⟩
    · intro rs led hm hs hp
      have hrl : rs.length ≤ 3 := by have := congrArg List.length hp; simp at this; omega
      try k_fold
      k_with "exec Assign cons BinOp" => (refine Stop.out ?_)
      k_with "binaryOp Add ref ref" => (k_here; k_dflt (refine' kmk_add_lit ?F ?N ?a ?b rfl ?_ ?z; (case F => k_asm); (case N => k_asm); (case a => kmk_list); (case b => kmk_list); (case z => (rw [PySem.sizeLine_eq]; simp; omega))); intro D9 h9 F9 N9 l9)
      k_steps
      unfold Stop
      k_with_none
      rename News _ _ _ _ => lN3
      obtain ⟨RS, led2, N2, hl2, hm2, hg2, h82⟩ := mk_runs lN3 (fun r hr => .tail _ (hm r hr)) hp hkb hk3
      clear lN3
      iterate 7 (first | walk1 | (dsimp only; walk1))
      k_here
      k_dflt (refine LCp.ListComp_P (F₀ := by k_asm) (by with_unfolding_all rfl) (by decide) (by rfl) (by decide) (by rfl) (by rfl) (by decide) ?_)
      walk1
      k_here
      k_dflt (refine LCp.SrcLP.ledger (by rfl) (by k_asm) N2 hl2 (by rw [PySem.sizeLine_eq]; simp; omega) ?_)
      intro g8
      refine pair_rest hm2 ?_ ?_ ?_
      · exact .inr ⟨_, hl2, rfl, _, rfl⟩
      · clear N2
        intro n t₁ y t₂ I oI C oC D m₂ ys' h tk E' hC hx hx2 F N
        try k_fold
        k_steps
        exact ⟨_, _, _, rfl, by k_asm, by k_asm, rfl⟩
      · intro zs hzs
        have kMark := kstMark
        have hzl : zs.length ≤ 8 := by rw [IntsAre.length hzs, List.length_map]; exact h82
        try k_fold
        k_steps
        refine mid_of (by k_asm) (by k_asm) (by with_unfolding_all rfl) (by with_unfolding_all rfl) ?_ (fun p hp => .tail _ hp) hl2 hm2 hg2 h82
        unfold szOf
        rw [tot_eq]
  · rintro s' ⟨rs, l, ep, tz, h', tk', led, u, rfl, kFr, kNews, hl, hm, hg, h8⟩
    clear lN
    have hg' : ∀ p ∈ rs.map Run.plain, PGood p := by intro p hp; obtain ⟨r, hr, rfl⟩ := List.mem_map.mp hp; exact hg r hr
    have h8' : (rs.map Run.plain).length ≤ 8 := by rw [List.length_map]; exact h8
    have kMark := kstMark
    k_with "call ref cons nil" => (k_here; k_dflt (refine' leftG rs ?k1 ?k2 ?k3 ?k4 ?k5 ?kK ?q1 ?q2 ?q3 ?q4 ?q5 ?q6 ?kd ?ku ?_; (case k1 => k_asm); (case k2 => k_asm); (case k3 => k_asm); (case k4 => k_asm); (case k5 => k_asm); (case kK => exact rfl); (case q1 => exact hl); (case q2 => exact hm); (case q3 => exact hg); (case q4 => exact h8); (case q5 => omega); (case q6 => omega); (case kd => ktr_room); (case ku => ktr_units)); intro t9 h9 tk9 F9 N9; (try dsimp only); (try k_fold))
    k_with "call ref cons nil" => (k_here; k_dflt (refine' Says.go (octets _ _ _) ?k1 ?k2 ?k3 ?k4 ?k5 ?kK ?kp ?kd ?ku ?_; (case k1 => k_asm); (case k2 => k_asm); (case k3 => k_asm); (case k4 => k_asm); (case k5 => k_asm); (case kK => exact rfl); (case kp => exact left_good _ hg' h8'); (case kd => ktr_room); (case ku => ktr_units); intro t9 h9 tk9 F9 N9; (try dsimp only); (try k_fold)))

    try k_fold
    k_with "exec For Name Call cons nil" => (refine Stop.out ?_)
    k_steps
    unfold Stop
    rename Fr _ _ _ _ => lF
    k_here
    with_unfolding_all refine' For_invVF lF ?g1 ?g2 ?_
    case g1 => exact rfl
    case g2 => exact rfl
    k_with "pyIter ref cons nil" => (refine Stop.out ?_)
    k_with "pyIter ref" => (refine Stop.out ?_)
    k_steps
    unfold Stop
    rename News _ _ _ _ => lN
    rename Fr _ _ _ _ => lF2
    rename IsRange _ _ _ _ _ _ _ _ => rgX
    k_here
    refine' kst_range (n := 5) (σ := Array UInt8 × Nat) (fun _ => _) (fun c => [(PySem.Str.ofString "row", Value.bytes c.1 c.2)]) (fun _ => True) [PySem.Str.ofString "text", PySem.Str.ofString "name"]
      (fun pre c => c.1 = oct (leftS (pre.length : Int) (rs.map Run.plain))) (oct (leftS 0 (rs.map Run.plain)), _) rfl rgX (by decide) (by decide) lF2 lN trivial ?kk rfl ?_ ?_
    case kk => kst_all
    · clear lF2 lN
      rintro ⟨row, trow⟩ kPre kN kT kU kH kTk kOwn kEq kLt kOff kFacts kInv kFr kNews
      dsimp only [kstB] at kFr
      dsimp only at kNews kInv
      subst kInv
      have kEq2 : kN = (kPre.length : Int) := by omega
      subst kEq2
      have hgd := left_good (kPre.length : Int) hg' h8'
      have hnm := name_len (kPre.length : Int) hg' h8'
      have hne : (leftS (kPre.length : Int) (rs.map Run.plain) != leftS (kPre.length : Int) (rs.map Run.plain)) = false := by simp
      have hs1 := sz_facts (rs.map Run.plain)
      have hs2 := tot_ge (rs.map Run.plain) hg'
      rw [List.length_map] at hs2
      have hs3 : 0 ≤ szOf (rs.map Run.plain) ∧ szOf (rs.map Run.plain) ≤ 200 := by unfold tot at hs1; omega
      clear hs1 hs2
      k_with "call ref cons nil" => (k_here; k_dflt (refine' leftG rs ?k1 ?k2 ?k3 ?k4 ?k5 ?kK ?q1 ?q2 ?q3 ?q4 ?q5 ?q6 ?kd ?ku ?_; (case k1 => k_asm); (case k2 => k_asm); (case k3 => k_asm); (case k4 => k_asm); (case k5 => k_asm); (case kK => exact rfl); (case q1 => first | exact hl | exact List.mem_append.mpr (.inl hl)); (case q2 => first | exact hm | exact fun r hr => List.mem_append.mpr (.inl (hm r hr))); (case q3 => exact hg); (case q4 => exact h8); (case q5 => omega); (case q6 => omega); (case kd => ktr_room); (case ku => ktr_units)); intro t9 h9 tk9 F9 N9; (try dsimp only); (try k_fold))
      k_with "call ref cons nil" => (k_here; k_dflt (refine' Says.go (enc64 _ _ _ _) ?k1 ?k2 ?k3 ?k4 ?k5 ?kK ?kp ?kd ?ku ?_; (case k1 => k_asm); (case k2 => k_asm); (case k3 => k_asm); (case k4 => k_asm); (case k5 => k_asm); (case kK => exact rfl); (case kp => exact hgd); (case kd => ktr_room); (case ku => ktr_units); intro t9 h9 tk9 F9 N9; (try dsimp only); (try k_fold)))
      k_with "call ref cons nil" => (k_here; k_dflt (refine' Says.go (p257L _ _ _ hg' h8' _) ?k1 ?k2 ?k3 ?k4 ?k5 ?kK ?kp ?kd ?ku ?_; (case k1 => k_asm); (case k2 => k_asm); (case k3 => k_asm); (case k4 => k_asm); (case k5 => k_asm); (case kK => exact rfl); (case kp => trivial); (case kd => ktr_room); (case ku => ktr_units); intro t9 h9 tk9 F9 N9; (try dsimp only); (try k_fold)))
      k_with "call ref cons nil" => (k_here; k_dflt (refine' Says.go (dec64L _ _ _ hg' h8' _ _) ?k1 ?k2 ?k3 ?k4 ?k5 ?kK ?kp ?kd ?ku ?_; (case k1 => k_asm); (case k2 => k_asm); (case k3 => k_asm); (case k4 => k_asm); (case k5 => k_asm); (case kK => exact rfl); (case kp => trivial); (case kd => ktr_room); (case ku => ktr_units); intro t9 h9 tk9 F9 N9; (try dsimp only); (try k_fold)))
      k_with "call builtin:bytes.decode cons nil" => (k_here; k_dflt (refine call_decode_asc hgd ?_); intro _ _)
      k_with "call builtin:len cons nil" => (k_here; k_dflt (refine P.len_str (by omega) ?_))
      k_with "binaryOp Mult str int" => (k_here; k_dflt (refine SB.mul (mulOk1 (by rfl) (by omega) (by omega)) ?_); intro _ _)
      k_with "state" => (rw [List.length_append]; rfl)
      try k_fold
      k_steps
      all_goals w_report
    · clear lF2 lN
      rintro ⟨row, trow⟩ kU kH kTk kFacts kInv kFr kNews
      dsimp only [kstB] at kFr
      dsimp only at kNews kInv
      rw [rangeKs_length] at kInv
      subst kInv
      try k_fold
      k_steps
      all_goals w_report
end Mine


theorem PySem.Challenge.cw_pa0028_01_holds : PySem.Challenge.rw_pa0028_01.Holds :=
  Mine.holds
