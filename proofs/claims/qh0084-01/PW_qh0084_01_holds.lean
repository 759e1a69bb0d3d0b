import PyProof.Rows.All
import Wide.All
import OpenK.AllK
import Wide.FinOn
import PySem.Challenge.RW_qh0084_01
set_option Elab.async false

namespace Mine
section
open PySem PySem.W PyProof.Rows
set_option maxRecDepth 100000
set_option maxHeartbeats 8000000
open_top hd for PySem.Challenge.rw_qh0084_01
end
end Mine

namespace Mine
section
open PySem PySem.W PyProof.Rows PySem.Calls
set_option maxRecDepth 100000
set_option maxHeartbeats 8000000

/-- the loose names of this top -/
abbrev TopQ (mean : ExcName → Option Value) (mg mb : Str → Option Value) (h : Heap) : Prop :=
  Top hd.view_39 (looseW hd.view_39 [Str.ofString "escape", Str.ofString "_twin_re_1", Str.ofString "bytes_types", Str.ofString "_NO_SEP",
      Str.ofString "b2a_hex", Str.ofString "hexlify", Str.ofString "unhexlify", Str.ofString "b16decode"]) mean mg mb h

/-- what a def of this file does, called from any frame: everything that stood stands; what comes back is told by `Post` -/
def PC (r : Nat) (w : World) (mean : ExcName → Option Value) (mg mb : Str → Option Value) (f : Addr) (vs : List Value) (Post : Heap → Value → Heap → Prop) : Prop :=
  ∀ (dp un : Nat) (gd : Option (List Code)) (cn : Str) (cs : Scope) (a : Addr) (ccd : Value) (cl : List (Str × Addr)) (outer : List Env) (A₀ : Around) (base h₀ : Heap) (L : Addr) (m : Str → Option Value) (s : Shared) (Q E : Value → Shared → Prop),
    Below A₀ base outer h₀ → Fr h₀ L s.heap m → (hd.heap_39 w.params).In h₀ → TopQ mean mg mb h₀ → cs.kind = .function → dp + r < recursionLimit → un + 10 * r < cLine →
    (∀ r h' tk', s.heap.StaysIn h' → Post s.heap r h' → Q r { s with heap := h', toks := tk' }) →
      wpAny (model Challenge.rw_qh0084_01.row.prog w) (ktrTop dp un gd cn cs L a ccd cl outer) (call (.ref f) vs) Q E s

def Done (s : Shared) (Post : Heap → Value → Heap → Prop) (v : Value) (s' : Shared) : Prop :=
  ∃ h' tk' L' m', s' = { s with heap := h', toks := tk' } ∧ Fr s.heap L' h' m' ∧ Post s.heap v h'

section
variable {prog : Program} {w : World} {A A₀ : Around} {E : Value → Shared → Prop} {s : Shared} {K : Frag} {L : Addr} {h₀ base : Heap} {m mg mb : Str → Option Value} {p : Program} {loose : List Str} {mean : ExcName → Option Value} {Q : Value → Shared → Prop}
theorem call_pure {env : Env} {outer : List Env} {name qual : Str} {params : Arguments} {body : List Stmt} {scope : Scope} {dV kV doc pm cdv ct oc : Value} {an od : Option Addr} {osl : Array (Option Value)} {f : Addr} {vs : List Value} {binds : List (Str × Value)}
    (Post : Heap → Value → Heap → Prop)
    (B : Below A₀ base outer h₀) (F : Fr h₀ L s.heap m) (X₀ : K.In h₀) (T : Top p loose mean mg mb h₀) (hA : A.frames = some (env :: outer)) (hf : env.frame = some L) (hke : env.scope.kind = .function)
    (hret : ∀ r h' tk', s.heap.StaysIn h' → Post s.heap r h' → Q r { s with heap := h', toks := tk' })
    (ho : K.lookup f = some ⟨oc, od, .func (fnOf name qual params body scope dV kV doc pm an cdv ct), osl⟩) (hcd : codeIn K cdv qual = true) (hroom : A.depth < recursionLimit)
    (hbind : BindsTo s (fnOf name qual params body scope dV kV doc pm an cdv ct) ⟨vs, []⟩ binds) (hloc : ∀ y ∈ binds, scope.names.lookup y.1 = some .local) (hpos : 0 < binds.length)
    (h : ∀ L' h₁ tk, 0 < tk → Fr s.heap L' h₁ (fun y => binds.reverse.lookup y) → News s.heap L' h₁ [] → Below A base (env :: outer) s.heap → K.In s.heap → Top p loose mean mg mb s.heap →
      wpAny (model prog w) (A.deeper (envOf qual scope L' f cdv)) (execs body (envOf qual scope L' f cdv))
        (fun fl s' => Done s Post (match fl with | .ret v => v | _ => .none) s') (fun _ _ => False)
        { s with heap := h₁, toks := tk })
    (hco : scope.isCoroutine = false) (hgen : scope.isGenerator = false) (hk : scope.kind = .function)
    (hcell : ∀ x ∈ scope.names, x.2 ≠ .cell) : wpAny (model prog w) A (call (.ref f) vs) Q E s := by
  refine wpAny_call ?_
  obtain ⟨FG, BG, st, lv⟩ := groundX (R := fun r s' => match r with | .ok (.ret v) => Q v s' | .ok _ => False | .error e => E e s') B F News.nil hA hf hke
  refine codeAny_call_def (fd := fnOf name qual params body scope dV kV doc pm an cdv ct) (body := body) (binds := binds) hroom ((X₀.keeps F.keep) _ _ ho) rfl ((T.nolimit).keeps F.keep) (codeRec_of (X₀.keeps F.keep) hcd) rfl hbind hcell hloc (fun h₁ hns hk₁ => ?_) hco hgen hk
  refine wpAny_mono (h s.heap.objs.size h₁ _ (Nat.lt_of_lt_of_le hpos (Nat.le_add_left _ _)) ⟨hns, hk₁, Nat.le_refl _⟩ News.nil BG (X₀.keeps F.keep) (T.keeps F.keep)) (fun fl s' hl => ?_) fun _ _ y => y.elim
  obtain ⟨h', tk', L', m', rfl, F', hp⟩ := hl
  exact hret _ _ _ F'.keep hp
end

section
variable {s : Shared} {h' : Heap} {L' : Addr} {m' : Str → Option Value} {tk' : Nat}
theorem done_str {x y : Str} {t : Tok} (F : Fr s.heap L' h' m') (e : y = x) : Done s (fun _ r _ => ∃ t, r = .str x t) (.str y t) { s with heap := h', toks := tk' } :=
  ⟨h', tk', L', m', rfl, F, t, by rw [e]⟩
theorem done_int {x y : Int} {t : Tok} (F : Fr s.heap L' h' m') (e : y = x) : Done s (fun _ r _ => ∃ t, r = .int x t) (.int y t) { s with heap := h', toks := tk' } :=
  ⟨h', tk', L', m', rfl, F, t, by rw [e]⟩
theorem done_bytes {x y : Array UInt8} {t : Tok} (F : Fr s.heap L' h' m') (e : y = x) : Done s (fun _ r _ => ∃ t, r = .bytes x t) (.bytes y t) { s with heap := h', toks := tk' } :=
  ⟨h', tk', L', m', rfl, F, t, by rw [e]⟩
end
end
end Mine

namespace Mine
section
open PySem PySem.W PyProof.Rows PySem.Calls PySem.Builtin
set_option maxRecDepth 100000
set_option maxHeartbeats 4000000

/-! ### bytes.hex -/
def hexL (b : List UInt8) : List Nat := b.flatMap fun c => [Bytes.hexDigit (c.toNat / 16), Bytes.hexDigit (c.toNat % 16)]
theorem hex_fold (l : List UInt8) : ∀ (k : Nat) (out : Array Nat), (l.zipIdx k).foldl (fun (out : Array Nat) (p : UInt8 × Nat) => (out.push (Bytes.hexDigit (p.1.toNat / 16))).push (Bytes.hexDigit (p.1.toNat % 16))) out = out ++ (hexL l).toArray := by
  induction l with
  | nil => intro k out; simp [hexL]
  | cons c l ih =>
    intro k out
    rw [List.zipIdx_cons, List.foldl_cons, ih]
    simp [hexL]
theorem hex_tree (b : Array UInt8) (t : Tok) : «bytes.hex» ⟨[.bytes b t], []⟩ = retStr ⟨b.toList.zipIdx.foldl (fun (out : Array Nat) (p : UInt8 × Nat) => (out.push (Bytes.hexDigit (p.1.toNat / 16))).push (Bytes.hexDigit (p.1.toNat % 16))) #[]⟩ := by
  kernel_rfl
theorem gives_hex (b : Array UInt8) (t : Tok) : Gives («bytes.hex» ⟨[.bytes b t], []⟩) (.str ⟨(hexL b.toList).toArray⟩) := by
  rw [hex_tree, hex_fold]
  simp only [Array.empty_append]
  exact .of_eq rfl
theorem args_hex (a : Value) : argsOk "bytes.hex" ⟨[a], []⟩ := by
  unfold argsOk; rw [signature?_of (id := "bytes.hex") (n := ['x', 'e', 'h']) (o := ['s', 'e', 't', 'y', 'b']) (by kernel_rfl) FB.owner_bytes]; kernel_rfl

/-! ### bytes.upper -/
theorem upper_tree (b : Array UInt8) (t : Tok) : «bytes.upper» ⟨[.bytes b t], []⟩ = (do ret (← mkBytes (b.toList.map Bytes.toUpper).toArray)) := by kernel_rfl
theorem gives_upper (b : Array UInt8) (t : Tok) : Gives («bytes.upper» ⟨[.bytes b t], []⟩) (.bytes (b.toList.map Bytes.toUpper).toArray) := by
  rw [upper_tree]
  exact .of_eq rfl
theorem slot_upper : Slot "bytes" "upper" "bytes.upper" :=
  .of (owner := "bytes") (n := "upper") (by rw [typeLookup_type, builtinLookup_eq_fast]; kernel_rfl) (by decide +kernel) (by decide +kernel) (by decide +kernel)
    (by first | exact .inl (by decide +kernel) | exact .inr (by decide +kernel)) (by rw [isSubtype_type]; kernel_rfl)
theorem type_upper : typeOf (.builtin "bytes.upper") = pure (.type "method_descriptor") := by show builtinType _ = _; rw [builtinType_eq_fast]; kernel_rfl
theorem entry_upper : entryFor table "bytes.upper" = some Builtin.«bytes.upper» := entryFor_of_tree (by kernel_rfl)
theorem args_upper (a : Value) : argsOk "bytes.upper" ⟨[a], []⟩ := by
  unfold argsOk; rw [signature?_of (id := "bytes.upper") (n := ['r', 'e', 'p', 'p', 'u']) (o := ['s', 'e', 't', 'y', 'b']) (by kernel_rfl) FB.owner_bytes]; kernel_rfl

/-! ### bytes < -/
theorem slot_lt : Slot "bytes" (cmpInfo .Lt).2.1 "bytes.__lt__" :=
  .of (owner := "bytes") (n := "__lt__") (by rw [typeLookup_type, builtinLookup_eq_fast]; kernel_rfl) (by decide +kernel) (by decide +kernel) (by decide +kernel)
    (by first | exact .inl (by decide +kernel) | exact .inr (by decide +kernel)) (by rw [isSubtype_type]; kernel_rfl)
theorem entry_lt : entryFor table "bytes.__lt__" = some Builtin.«bytes.__lt__» := entryFor_of_tree (by kernel_rfl)
theorem args_lt (a b : Value) : argsOk "bytes.__lt__" ⟨[a, b], []⟩ := by
  unfold argsOk; rw [signature?_of (id := "bytes.__lt__") (n := ['_', '_', 't', 'l', '_', '_']) (o := ['s', 'e', 't', 'y', 'b']) (by kernel_rfl) FB.owner_bytes]; kernel_rfl
theorem gives_lt (b c : Array UInt8) (t u : Tok) : Gives («bytes.__lt__» ⟨[.bytes b t, .bytes c u], []⟩) (.val (.bool (Bytes.order b.toList c.toList == .lt))) := by
  refine .of_wp fun M A E s Q hq => ?_
  show wpAny M A (isInstance (.bytes c u) (.type "bytes") >>= fun r => _) _ E s
  refine wpAny_bind (wpAny_isInstance (typeIs_bytes s c u) F.sub_bytes_bytes ?_)
  exact wpAny_pure ⟨_, rfl, hq⟩
section
variable {prog : Program} {w : World} {A : Around} {E : Value → Shared → Prop} {s : Shared} {b c : Array UInt8} {t u : Tok} {Q : Value → Shared → Prop}
theorem lt_bytes (h : Q (.bool (Bytes.order b.toList c.toList == .lt)) s) : wpAny (model prog w) A (compareOp .Lt (.bytes b t) (.bytes c u)) Q E s :=
  compareOp_gives (op := .Lt) (typeIs_bytes s b t) (typeIs_bytes s c u) slot_lt entry_lt (args_lt _ _) (gives_lt b c t u) (fun e => nomatch e) h
theorem call_hex (hsz : 2 * b.size ≤ 16777216) (h : Q (.str ⟨(hexL b.toList).toArray⟩ s.toks) { s with toks := s.toks + 1 }) : wpAny (model prog w) A (call (.builtin "bytes.hex") [.bytes b t]) Q E s := by
  refine call_gives FB.slot_bytes_hex (typeIs_bytes s b t) FB.entry_bytes_hex (args_hex _) (gives_hex b t) ⟨?_, h⟩
  have : (hexL b.toList).length = 2 * b.size := by
    unfold hexL
    rw [← Array.length_toList]
    generalize b.toList = l
    induction l with
    | nil => rfl
    | cons c l ih => simp only [List.flatMap_cons, List.length_append, List.length_cons, List.length_nil, ih]; omega
  show (hexL b.toList).toArray.size ≤ sizeLine
  rw [List.size_toArray, this, sizeLine_eq]
  exact hsz
theorem call_upper (hsz : b.size ≤ 16777216) (h : Q (.bytes (b.toList.map Bytes.toUpper).toArray s.toks) { s with toks := s.toks + 1 }) : wpAny (model prog w) A (call (.builtin "bytes.upper") [.bytes b t]) Q E s := by
  refine call_gives slot_upper (typeIs_bytes s b t) entry_upper (args_upper _) (gives_upper b t) ⟨?_, h⟩
  simp only [List.size_toArray, List.length_map, Array.length_toList, sizeLine_eq]
  exact hsz
theorem meth_hex {M : Model} {pl : Sem Bool} {Q : Value × List Value → Shared → Prop} (h : Q (.builtin "bytes.hex", [.bytes b t]) s) : wpAny M A (getMethod (.bytes b t) "hex" pl) Q E s := by
  with_reducible exact KBd.method_of (.bytes b t) (typeIs_bytes _ _ _) FB.slot_bytes_hex FB.type_bytes_hex KBd.noRef h
theorem meth_upper {M : Model} {pl : Sem Bool} {Q : Value × List Value → Shared → Prop} (h : Q (.builtin "bytes.upper", [.bytes b t]) s) : wpAny M A (getMethod (.bytes b t) "upper" pl) Q E s := by
  with_reducible exact KBd.method_of (.bytes b t) (typeIs_bytes _ _ _) slot_upper type_upper KBd.noRef h
theorem type_bytes (h : Q (.type "bytes") s) : wpAny (model prog w) A (call (.type "type") [.bytes b t]) Q E s :=
  call_type_of (typeIs_bytes s b t) (by decide +kernel) h
theorem type_int {i : Int} (h : Q (.type "int") s) : wpAny (model prog w) A (call (.type "type") [.int i t]) Q E s :=
  call_type_of (typeIs_int s i t) (by decide +kernel) h
end
end
end Mine

namespace Mine
section
open PySem PySem.W PyProof.Rows PySem.Calls PySem.Builtin
set_option maxRecDepth 100000
set_option maxHeartbeats 4000000
open Builtin._codecs in
theorem enc_tree8 (x : Str) (t u : Tok) : «str.encode» ⟨[.str x t, .str (Str.ofString "utf-8") u], []⟩ = (do ret (← encodeRoad "str.encode" (.str x t) x (Str.ofString "utf-8") none)) := by kernel_rfl
open Builtin._codecs in
theorem enc_treeA (x : Str) (t u : Tok) : «str.encode» ⟨[.str x t, .str (Str.ofString "ascii") u], []⟩ = (do ret (← encodeRoad "str.encode" (.str x t) x (Str.ofString "ascii") none)) := by kernel_rfl
open Builtin._codecs in
theorem road_ascii (id : String) (self : Value) (x : Str) (errors : Option Str) : encodeRoad id self x (Str.ofString "ascii") errors = (do mkBytes (← encodeNarrow id asciiCodec errors self x)) := by
  kernel_rfl
theorem forIn_twice {σ : Type} {a b : σ} {f : Nat → σ → Sem (ForInStep σ)} (h1 : ∀ k, f k a = pure (.yield b)) (h2 : ∀ k, f k b = pure (.done b)) :
    ∀ (l : List Nat), l ≠ [] → (forIn l a f : Sem σ) = pure b
  | [], h => absurd rfl h
  | [x], _ => by rw [List.forIn_cons, h1]; rfl
  | x :: y :: l, _ => by
    rw [List.forIn_cons, h1]
    show (forIn (y :: l) b f : Sem σ) = _
    rw [List.forIn_cons, h2]
    rfl
theorem foldl_bytes (f : Nat → List UInt8) (l : List Nat) : ∀ acc : Array UInt8, l.foldl (fun acc y => acc ++ (f y).toArray) acc = acc ++ (l.flatMap f).toArray := by
  induction l with
  | nil => intro acc; simp
  | cons y l ih => intro acc; rw [List.foldl_cons, ih]; simp
open Builtin._codecs in
theorem narrow_eq (id : String) (c : TextCodec) (self : Value) (x : Str) (hc : ∀ y ∈ x.cps.toList, c.bad y = false) (hsz : (x.cps.toList.flatMap c.bytesOf).length ≤ 16777216) :
    encodeNarrow id c none self x = pure (x.cps.toList.flatMap c.bytesOf).toArray := by
  by_cases he : x.cps = #[]
  · obtain ⟨cps⟩ := x
    simp only at he
    subst he
    unfold encodeNarrow
    simp only [Std.Legacy.Range.forIn_eq_forIn_range', Std.Legacy.Range.size, Nat.sub_zero, Nat.add_sub_cancel, Nat.div_one]
    rfl
  have hn : x.cps.size ≠ 0 := fun e => he (Array.eq_empty_of_size_eq_zero e)
  have hf : x.cps.findIdx? c.bad = none := by
    rw [Array.findIdx?_eq_none_iff]
    intro y hy
    exact hc y (by simpa using hy)
  unfold encodeNarrow
  simp only [Std.Legacy.Range.forIn_eq_forIn_range', Std.Legacy.Range.size, Nat.sub_zero, Nat.add_sub_cancel, Nat.div_one]
  refine (congrArg (fun z => z >>= _) (forIn_twice (b := (x.cps.size, (x.cps.toList.flatMap c.bytesOf).toArray, ({ } : Faults))) ?_ ?_ _ ?_)).trans rfl
  · intro k
    have h0 : ∃ y, x.cps[0]? = some y := ⟨x.cps[0]'(Nat.pos_of_ne_zero hn), by simp⟩
    obtain ⟨y, hy⟩ := h0
    have hb : c.bad y = false := hc y (by
      have := Array.mem_of_getElem? hy
      simpa using this)
    simp only [hy, hb, Array.extract_size, hf, Bool.not_false, if_true, Option.getD_none, Nat.zero_add]
    rw [if_neg (by simp)]
    rw [← Array.foldl_toList, foldl_bytes]
    simp
  · intro k
    have h1 : x.cps[x.cps.size]? = none := by simp
    simp only [h1, List.size_toArray]
    rw [if_neg (by rw [sizeLine_eq]; omega)]
  · intro e
    exact hn (by have := congrArg List.length e; simpa [Str.length] using this)
open Builtin._codecs in
theorem gives_enc8 (x : Str) (t u : Tok) (hc : ∀ y ∈ x.cps.toList, Str.isSurrogate y = false) (hsz : (x.cps.toList.flatMap Str.utf8Of).length ≤ 16777216) :
    Gives («str.encode» ⟨[.str x t, .str (Str.ofString "utf-8") u], []⟩) (.bytes (x.cps.toList.flatMap Str.utf8Of).toArray) := by
  rw [enc_tree8, encodeRoad_utf8, narrow_eq _ utf8Codec _ _ hc hsz]
  exact .of_eq rfl
open Builtin._codecs in
theorem gives_encA (x : Str) (t u : Tok) (hc : ∀ y ∈ x.cps.toList, y < 128) (hsz : x.length ≤ 16777216) :
    Gives («str.encode» ⟨[.str x t, .str (Str.ofString "ascii") u], []⟩) (.bytes (x.cps.toList.map fun c => c.toUInt8).toArray) := by
  have e : x.cps.toList.flatMap asciiCodec.bytesOf = x.cps.toList.map fun c => c.toUInt8 := by
    show x.cps.toList.flatMap (fun c => [c.toUInt8]) = _
    simp [List.map_eq_flatMap]
  rw [enc_treeA, road_ascii, narrow_eq _ asciiCodec _ _ (fun y hy => decide_eq_false (Nat.not_le.mpr (hc y hy))) (by rw [e, List.length_map]; exact hsz), e]
  exact .of_eq rfl
section
variable {prog : Program} {w : World} {A : Around} {E : Value → Shared → Prop} {s : Shared} {x : Str} {t u : Tok} {Q : Value → Shared → Prop}
theorem call_enc8 (hc : ∀ y ∈ x.cps.toList, Str.isSurrogate y = false) (hsz : (x.cps.toList.flatMap Str.utf8Of).length ≤ 16777216)
    (h : Q (.bytes (x.cps.toList.flatMap Str.utf8Of).toArray s.toks) { s with toks := s.toks + 1 }) : wpAny (model prog w) A (call (.builtin "str.encode") [.str x t, .str (Str.ofString "utf-8") u]) Q E s :=
  call_gives F.slot_str_encode (typeIs_str _ _ _) F.entry_str_encode (F.args_str_encode_2 _ _) (gives_enc8 x t u hc hsz) ⟨by rw [List.size_toArray, sizeLine_eq]; exact hsz, h⟩
theorem call_encA (hc : ∀ y ∈ x.cps.toList, y < 128) (hsz : x.length ≤ 16777216)
    (h : Q (.bytes (x.cps.toList.map fun c => c.toUInt8).toArray s.toks) { s with toks := s.toks + 1 }) : wpAny (model prog w) A (call (.builtin "str.encode") [.str x t, .str (Str.ofString "ascii") u]) Q E s :=
  call_gives F.slot_str_encode (typeIs_str _ _ _) F.entry_str_encode (F.args_str_encode_2 _ _) (gives_encA x t u hc hsz) ⟨by rw [List.size_toArray, List.length_map, sizeLine_eq]; exact hsz, h⟩
end
end
end Mine

namespace Mine
section
open PySem PySem.W PyProof.Rows PySem.Calls PySem.Builtin
set_option maxRecDepth 100000
set_option maxHeartbeats 4000000
/-- a code point that UTF-8 writes -/
def OkCp (c : Nat) : Prop := c < 0x110000 ∧ Str.isSurrogate c = false
theorem toU8 {n : Nat} (h : n < 256) : n.toUInt8.toNat = n := by
  simp [Nat.toUInt8, UInt8.toNat_ofNat', Nat.mod_eq_of_lt h]
theorem at_pre {pre : List UInt8} {x : UInt8} {post : List UInt8} : (pre ++ x :: post).toArray.getD pre.length 0 = x := by
  simp
theorem at_pre? {pre mid : List UInt8} {x : UInt8} {post : List UInt8} {k : Nat} (h : mid.length = k) : (pre ++ (mid ++ x :: post)).toArray[pre.length + k]? = some x := by
  subst h
  simp
theorem utf8At_of (pre post : List UInt8) (c : Nat) (hc : OkCp c) : Bytes.utf8At (pre ++ (Str.utf8Of c ++ post)).toArray pre.length = (.char c, pre.length + (Str.utf8Of c).length) := by
  obtain ⟨h1, h2⟩ := hc
  unfold Str.utf8Of
  split
  · rename_i h
    have e0 : (pre ++ ([c.toUInt8] ++ post)).toArray.getD pre.length 0 = c.toUInt8 := at_pre
    unfold Bytes.utf8At
    simp only [e0, toU8 (show c < 256 by omega), h, if_true, List.length_cons, List.length_nil]
  split
  · rename_i h3 h4
    have e0 : (pre ++ ([(0xC0 + c / 64).toUInt8, (0x80 + c % 64).toUInt8] ++ post)).toArray.getD pre.length 0 = (0xC0 + c / 64).toUInt8 := at_pre
    have e1 : (pre ++ ([(0xC0 + c / 64).toUInt8, (0x80 + c % 64).toUInt8] ++ post)).toArray[pre.length + 1]? = some (0x80 + c % 64).toUInt8 := at_pre? (mid := [_]) rfl
    have n0 := toU8 (show 0xC0 + c / 64 < 256 by omega)
    have n1 := toU8 (show 0x80 + c % 64 < 256 by omega)
    unfold Bytes.utf8At
    simp only [e0, n0]
    rw [if_neg (by omega), if_pos (by simp; omega)]
    have hr : (List.range 1).map (· + 1) = [1] := rfl
    simp only [hr, List.foldl_cons, List.foldl_nil, e1, n1, Except.bind]
    rw [if_pos (by simp; omega)]
    simp only [List.length_cons, List.length_nil]
    have e : (192 + c / 64) % (if (1 == 1) = true then 32 else if (1 == 2) = true then 16 else 8) * 64 + (128 + c % 64) % 64 = c := by
      simp; omega
    rw [e]
  split
  · rename_i h3 h4 h5
    have hs : ¬ (55296 ≤ c ∧ c ≤ 57343) := by simpa [Str.isSurrogate] using h2
    have e0 : (pre ++ ([(0xE0 + c / 4096).toUInt8, (0x80 + c / 64 % 64).toUInt8, (0x80 + c % 64).toUInt8] ++ post)).toArray.getD pre.length 0 = (0xE0 + c / 4096).toUInt8 := at_pre
    have e1 : (pre ++ ([(0xE0 + c / 4096).toUInt8, (0x80 + c / 64 % 64).toUInt8, (0x80 + c % 64).toUInt8] ++ post)).toArray[pre.length + 1]? = some (0x80 + c / 64 % 64).toUInt8 := at_pre? (mid := [_]) rfl
    have e2 : (pre ++ ([(0xE0 + c / 4096).toUInt8, (0x80 + c / 64 % 64).toUInt8, (0x80 + c % 64).toUInt8] ++ post)).toArray[pre.length + 2]? = some (0x80 + c % 64).toUInt8 := at_pre? (mid := [_, _]) rfl
    have n0 := toU8 (show 0xE0 + c / 4096 < 256 by omega)
    have n1 := toU8 (show 0x80 + c / 64 % 64 < 256 by omega)
    have n2 := toU8 (show 0x80 + c % 64 < 256 by omega)
    have hv : ((224 + c / 4096) % (if (2 == 1) = true then 32 else if (2 == 2) = true then 16 else 8) * 64 + (128 + c / 64 % 64) % 64) * 64 + (128 + c % 64) % 64 = c := by
      simp; omega
    by_cases hA : c < 4096
    · unfold Bytes.utf8At
      simp only [e0, n0]
      rw [if_neg (by omega), if_neg (by simp; omega), if_pos (by simp; omega)]
      have hr : (List.range 2).map (· + 1) = [1, 2] := rfl
      simp only [hr, List.foldl_cons, List.foldl_nil, e1, n1, Except.bind]
      rw [if_pos (by simp; omega)]
      simp only [e2, n2]
      rw [if_pos (by simp; omega)]
      simp only [List.length_cons, List.length_nil]
      rw [hv]
    by_cases hB : c / 4096 = 13
    · unfold Bytes.utf8At
      simp only [e0, n0]
      rw [if_neg (by omega), if_neg (by simp; omega), if_neg (by simp; omega), if_pos (by simp; omega)]
      have hr : (List.range 2).map (· + 1) = [1, 2] := rfl
      simp only [hr, List.foldl_cons, List.foldl_nil, e1, n1, Except.bind]
      rw [if_pos (by simp; omega)]
      simp only [e2, n2]
      rw [if_pos (by simp; omega)]
      simp only [List.length_cons, List.length_nil]
      rw [hv]
    · unfold Bytes.utf8At
      simp only [e0, n0]
      rw [if_neg (by omega), if_neg (by simp; omega), if_neg (by simp; omega), if_neg (by simp; omega), if_pos (by simp; omega)]
      have hr : (List.range 2).map (· + 1) = [1, 2] := rfl
      simp only [hr, List.foldl_cons, List.foldl_nil, e1, n1, Except.bind]
      rw [if_pos (by simp; omega)]
      simp only [e2, n2]
      rw [if_pos (by simp; omega)]
      simp only [List.length_cons, List.length_nil]
      rw [hv]
  · rename_i h3 h4 h5
    have e0 : (pre ++ ([(0xF0 + c / 262144).toUInt8, (0x80 + c / 4096 % 64).toUInt8, (0x80 + c / 64 % 64).toUInt8, (0x80 + c % 64).toUInt8] ++ post)).toArray.getD pre.length 0 = (0xF0 + c / 262144).toUInt8 := at_pre
    have e1 : (pre ++ ([(0xF0 + c / 262144).toUInt8, (0x80 + c / 4096 % 64).toUInt8, (0x80 + c / 64 % 64).toUInt8, (0x80 + c % 64).toUInt8] ++ post)).toArray[pre.length + 1]? = some (0x80 + c / 4096 % 64).toUInt8 := at_pre? (mid := [_]) rfl
    have e2 : (pre ++ ([(0xF0 + c / 262144).toUInt8, (0x80 + c / 4096 % 64).toUInt8, (0x80 + c / 64 % 64).toUInt8, (0x80 + c % 64).toUInt8] ++ post)).toArray[pre.length + 2]? = some (0x80 + c / 64 % 64).toUInt8 := at_pre? (mid := [_, _]) rfl
    have e3 : (pre ++ ([(0xF0 + c / 262144).toUInt8, (0x80 + c / 4096 % 64).toUInt8, (0x80 + c / 64 % 64).toUInt8, (0x80 + c % 64).toUInt8] ++ post)).toArray[pre.length + 3]? = some (0x80 + c % 64).toUInt8 := at_pre? (mid := [_, _, _]) rfl
    have n0 := toU8 (show 0xF0 + c / 262144 < 256 by omega)
    have n1 := toU8 (show 0x80 + c / 4096 % 64 < 256 by omega)
    have n2 := toU8 (show 0x80 + c / 64 % 64 < 256 by omega)
    have n3 := toU8 (show 0x80 + c % 64 < 256 by omega)
    have hv : (((240 + c / 262144) % (if (3 == 1) = true then 32 else if (3 == 2) = true then 16 else 8) * 64 + (128 + c / 4096 % 64) % 64) * 64 + (128 + c / 64 % 64) % 64) * 64 + (128 + c % 64) % 64 = c := by
      simp; omega
    by_cases hA : c / 262144 = 0
    · unfold Bytes.utf8At
      simp only [e0, n0]
      rw [if_neg (by omega), if_neg (by simp; omega), if_neg (by simp; omega), if_neg (by simp; omega), if_neg (by simp; omega), if_pos (by simp; omega)]
      have hr : (List.range 3).map (· + 1) = [1, 2, 3] := rfl
      simp only [hr, List.foldl_cons, List.foldl_nil, e1, n1, Except.bind]
      rw [if_pos (by simp; omega)]
      simp only [e2, n2]
      rw [if_pos (by simp; omega)]
      simp only [e3, n3]
      rw [if_pos (by simp; omega)]
      simp only [List.length_cons, List.length_nil]
      rw [hv]
    by_cases hB : c / 262144 = 4
    · unfold Bytes.utf8At
      simp only [e0, n0]
      rw [if_neg (by omega), if_neg (by simp; omega), if_neg (by simp; omega), if_neg (by simp; omega), if_neg (by simp; omega), if_neg (by simp; omega), if_neg (by simp; omega), if_pos (by simp; omega)]
      have hr : (List.range 3).map (· + 1) = [1, 2, 3] := rfl
      simp only [hr, List.foldl_cons, List.foldl_nil, e1, n1, Except.bind]
      rw [if_pos (by simp; omega)]
      simp only [e2, n2]
      rw [if_pos (by simp; omega)]
      simp only [e3, n3]
      rw [if_pos (by simp; omega)]
      simp only [List.length_cons, List.length_nil]
      rw [hv]
    · unfold Bytes.utf8At
      simp only [e0, n0]
      rw [if_neg (by omega), if_neg (by simp; omega), if_neg (by simp; omega), if_neg (by simp; omega), if_neg (by simp; omega), if_neg (by simp; omega), if_pos (by simp; omega)]
      have hr : (List.range 3).map (· + 1) = [1, 2, 3] := rfl
      simp only [hr, List.foldl_cons, List.foldl_nil, e1, n1, Except.bind]
      rw [if_pos (by simp; omega)]
      simp only [e2, n2]
      rw [if_pos (by simp; omega)]
      simp only [e3, n3]
      rw [if_pos (by simp; omega)]
      simp only [List.length_cons, List.length_nil]
      rw [hv]

theorem utf8Of_pos (c : Nat) : 0 < (Str.utf8Of c).length := by unfold Str.utf8Of; (repeat' split) <;> simp
theorem forIn_dec {f : Nat → (Nat × Array Nat × _codecs.Faults) → Sem (ForInStep (Nat × Array Nat × _codecs.Faults))} {b : List UInt8} (st : _codecs.Faults)
    (hstop : ∀ k out, out.size ≤ 16777216 → f k (b.length, out, st) = pure (.done (b.length, out, st)))
    (hgo : ∀ k out pre c post, b = pre ++ (Str.utf8Of c ++ post) → OkCp c → out.size ≤ 16777216 → f k (pre.length, out, st) = pure (.yield (pre.length + (Str.utf8Of c).length, out ++ #[c], st))) :
    ∀ (rest : List Nat) (l : List Nat) (pre : List UInt8) (out : Array Nat), b = pre ++ rest.flatMap Str.utf8Of → (∀ c ∈ rest, OkCp c) → rest.length ≤ l.length → out.size + rest.length ≤ 16777216 →
      (forIn l (pre.length, out, st) f : Sem _) = pure (b.length, out ++ rest.toArray, st)
  | [], [], pre, out, e, _, _, _ => by
    have : b = pre := by simpa using e
    subst this
    simp
  | [], k :: l, pre, out, e, _, _, hz => by
    have : b = pre := by simpa using e
    subst this
    rw [List.forIn_cons, hstop _ _ (by simpa using hz)]
    simp
  | c :: rest, [], _, _, _, _, h, _ => absurd h (by simp)
  | c :: rest, k :: l, pre, out, e, hc, h, hz => by
    rw [List.flatMap_cons] at e
    simp only [List.length_cons] at h hz
    rw [List.forIn_cons, hgo k out pre c _ e (hc c (.head _)) (by omega)]
    have ih := forIn_dec st hstop hgo rest l (pre ++ Str.utf8Of c) (out ++ #[c]) (by rw [e, List.append_assoc]) (fun y hy => hc y (.tail _ hy)) (by omega) (by simp; omega)
    rw [List.length_append] at ih
    show (forIn l (pre.length + (Str.utf8Of c).length, out ++ #[c], st) f : Sem _) = _
    rw [ih]
    simp
open Builtin._codecs in
theorem run_dec (id : String) (cps : List Nat) (hc : ∀ c ∈ cps, OkCp c) (hz : cps.length ≤ 16777216) :
    runDecoder id utf8Decoder none true (cps.flatMap Str.utf8Of).toArray 0 [] = pure (cps.toArray, (cps.flatMap Str.utf8Of).length) := by
  unfold runDecoder
  simp only [Std.Legacy.Range.forIn_eq_forIn_range', Std.Legacy.Range.size, Nat.sub_zero, Nat.add_sub_cancel, Nat.div_one]
  have hl : cps.length ≤ (cps.flatMap Str.utf8Of).length := by
    clear hc hz
    induction cps with
    | nil => simp
    | cons c r ih => rw [List.flatMap_cons, List.length_append, List.length_cons]; have := utf8Of_pos c; omega
  refine (congrArg (fun z => z >>= _) (forIn_dec (b := cps.flatMap Str.utf8Of) ({ held := [] } : Faults) ?_ ?_ cps _ [] #[] rfl hc ?_ ?_)).trans ?_
  · intro k out ho
    simp only [List.size_toArray]
    rw [if_neg (by rw [sizeLine_eq]; omega), if_pos (Nat.le_refl _)]
  · intro k out pre c post e hc ho
    have hp : ¬ (pre.length ≥ (cps.flatMap Str.utf8Of).length) := by
      rw [e, List.length_append, List.length_append]; have := utf8Of_pos c; omega
    simp only [List.size_toArray]
    rw [if_neg (by rw [sizeLine_eq]; omega), if_neg hp]
    have hf : utf8Decoder.find true (cps.flatMap Str.utf8Of).toArray pre.length = .text [c] (pre.length + (Str.utf8Of c).length) := by
      show (match Bytes.utf8At (cps.flatMap Str.utf8Of).toArray pre.length with | (.char c9, nx9) => _ | (.bad _ stop9 reason9, _) => _) = _
      rw [e, utf8At_of pre post c hc]
      rfl
    rw [hf]
  · simpa using hl
  · simpa using hz
  · simp
end
end Mine

namespace Mine
section
open PySem PySem.W PyProof.Rows PySem.Calls PySem.Builtin
set_option maxRecDepth 100000
set_option maxHeartbeats 4000000
/-! ### bytes.decode('utf-8') -/
theorem dec_tree (c : UInt8) (cs : List UInt8) (t u : Tok) : «bytes.decode» ⟨[.bytes (c :: cs).toArray t, .str (Str.ofString "utf-8") u], []⟩ =
    (mkStr (PySem.Str.ofString "utf-8") >>= fun _ => mkStr (PySem.Str.ofString "utf-8") >>= fun e => mkStr (PySem.Str.ofString "bytes.decode") >>= fun d =>
    call (.builtin "_codecs.decode.text") [.bytes (c :: cs).toArray t, e, .none, d] >>= fun v => ret v) := by kernel_rfl
theorem dec_tree0 (t u : Tok) : «bytes.decode» ⟨[.bytes #[] t, .str (Str.ofString "utf-8") u], []⟩ = (do rule "bytes.decode.empty"; retStr Str.empty) := by kernel_rfl
theorem args_dec (a b : Value) : argsOk "bytes.decode" ⟨[a, b], []⟩ := by
  unfold argsOk; rw [signature?_of (id := "bytes.decode") (n := ['e', 'd', 'o', 'c', 'e', 'd']) (o := ['s', 'e', 't', 'y', 'b']) (by kernel_rfl) FB.owner_bytes]; kernel_rfl
theorem meets_dec (cps : List Nat) (t u : Tok) (hc : ∀ c ∈ cps, OkCp c) (hz : cps.length ≤ 16777216) :
    Meets («bytes.decode» ⟨[.bytes (cps.flatMap Str.utf8Of).toArray t, .str (Str.ofString "utf-8") u], []⟩) (fun _ R s => ∀ t' k, 0 < k → R (.ok (.ret (.str ⟨cps.toArray⟩ t'))) { s with toks := k }) := by
  refine .of_wp fun prog w A R s h => ?_
  cases hb : cps.flatMap Str.utf8Of with
  | nil =>
    have : cps = [] := by
      cases cps with
      | nil => rfl
      | cons c r => rw [List.flatMap_cons] at hb; have := utf8Of_pos c; simp at hb; simp [hb.1] at this
    subst this
    rw [dec_tree0]
    exact wpAny_bind (wpAny_rule (wpAny_bind (wpAny_mkStr (wpAny_pure ⟨_, rfl, h _ _ (Nat.succ_pos _)⟩) (by decide))))
  | cons c cs =>
    rw [dec_tree]
    refine wpAny_bind (wpAny_mkStr ?_ (by decide))
    refine wpAny_bind (wpAny_mkStr ?_ (by decide))
    refine wpAny_bind (wpAny_mkStr ?_ (by decide))
    have hd : ∀ id, _codecs.runDecoder id _codecs.utf8Decoder none true (c :: cs).toArray 0 [] = pure ((⟨cps.toArray⟩ : Str).cps, (cps.flatMap Str.utf8Of).length) := fun id => by rw [← hb]; exact run_dec id cps hc hz
    exact wpAny_bind (call_function_meets KBd.kind_text KBd.plain_text KBd.entry_text (KBd.args_text _ _ _ _) (KBd.meets_text hd) ⟨by rw [sizeLine_eq]; simpa [Str.length] using hz, wpAny_pure ⟨_, rfl, h _ _ (Nat.succ_pos _)⟩⟩)
section
variable {prog : Program} {w : World} {A : Around} {E : Value → Shared → Prop} {s : Shared} {b : Array UInt8} {t u : Tok} {Q : Value → Shared → Prop}
theorem call_dec (cps : List Nat) (hb : b = (cps.flatMap Str.utf8Of).toArray) (hc : ∀ c ∈ cps, OkCp c) (hz : cps.length ≤ 16777216) (h : ∀ t' k, 0 < k → Q (.str ⟨cps.toArray⟩ t') { s with toks := k }) :
    wpAny (model prog w) A (call (.builtin "bytes.decode") [.bytes b t, .str (Str.ofString "utf-8") u]) Q E s := by
  subst hb
  exact call_meets FB.slot_bytes_decode (typeIs_bytes _ _ _) FB.entry_bytes_decode (args_dec _ _) (meets_dec cps t u hc hz) h
end

/-! ### re.Pattern.search with [^0-9A-F] -/
def rxCode : Array Nat := #[14, 12, 4, 1, 1, 21, 22, 48, 57, 22, 65, 70, 0, 13, 9, 21, 22, 48, 57, 22, 65, 70, 0, 1]
def isHexU (c : Nat) : Bool := (48 ≤ c && c ≤ 57) || (65 ≤ c && c ≤ 70)
theorem rx_inSet (c : Nat) (hc : isHexU c = true) (seen : Sre.Seen) : ∃ seen', Sre.inSet rxCode c rxCode.size 5 true seen = .ok (false, seen') := by
  show ∃ seen', Sre.inSet rxCode c 24 5 true seen = .ok (false, seen')
  unfold Sre.inSet
  show ∃ seen', Sre.inSet rxCode c 23 6 false _ = .ok (false, seen')
  unfold Sre.inSet
  show ∃ seen', (if (decide (48 ≤ c) && decide (c ≤ 57)) = true then Except.ok (false, _) else Sre.inSet rxCode c 22 9 false _) = .ok (false, seen')
  unfold isHexU at hc
  by_cases h : (decide (48 ≤ c) && decide (c ≤ 57)) = true
  · rw [if_pos h]; exact ⟨_, rfl⟩
  · rw [if_neg h]
    unfold Sre.inSet
    show ∃ seen', (if (decide (65 ≤ c) && decide (c ≤ 70)) = true then Except.ok (false, _) else Sre.inSet rxCode c 21 12 false _) = .ok (false, seen')
    have h' : (decide (65 ≤ c) && decide (c ≤ 70)) = true := by
      cases h1 : (decide (48 ≤ c) && decide (c ≤ 57)) with
      | true => exact absurd h1 h
      | false => rw [h1] at hc; exact hc
    rw [if_pos h']
    exact ⟨_, rfl⟩
theorem rx_admitted (m : Sre.M) (hm : m.code = rxCode) (hx : ∀ i, i < m.lim → isHexU (m.text.getD i 0) = true) : ∀ (fuel s : Nat) (seen : Sre.Seen), ∃ seen', m.admitted fuel s seen = .ok (none, seen')
  | 0, s, seen => ⟨_, rfl⟩
  | fuel + 1, s, seen => by
    unfold Sre.M.admitted
    by_cases h : s ≥ m.lim
    · rw [if_pos h]; exact ⟨_, rfl⟩
    · rw [if_neg h, hm]
      obtain ⟨seen', e⟩ := rx_inSet (m.text.getD s 0) (hx s (Nat.not_le.mp h)) seen
      rw [e]
      exact rx_admitted m hm hx fuel (s + 1) seen'
end
end Mine

namespace Mine
section
open PySem PySem.W PyProof.Rows PySem.Calls PySem.Builtin PySem.Builtin.Re
set_option maxRecDepth 100000
set_option maxHeartbeats 400000
theorem rx_attempt (m : Sre.M) (k : Nat) (hm : m.code = rxCode) (hx : ∀ i, i < m.lim → isHexU (m.text.getD i 0) = true) (h2 : m.frames = []) (h3 : m.outcome = none) :
    (m.attemptFrom k true).answer = some false ∧ (m.attemptFrom k true).frames = [] ∧ (m.attemptFrom k true).outcome = none := by
  have hf : m.hasFirstSet = true := by
    unfold Sre.M.hasFirstSet
    rw [hm]
    decide +kernel
  obtain ⟨seen', e⟩ := rx_admitted m hm hx (m.lim + 1 - k) k m.seen
  unfold Sre.M.attemptFrom
  rw [hf, e]
  exact ⟨rfl, h2, h3⟩
theorem rx_for (text : Array Nat) (lim : Nat) (hx : ∀ i, i < lim → isHexU (text.getD i 0) = true) :
    (Sre.forSearch rxCode text 0 0 lim false).answer = some false ∧ (Sre.forSearch rxCode text 0 0 lim false).frames = [] ∧ (Sre.forSearch rxCode text 0 0 lim false).outcome = none := by
  unfold Sre.forSearch
  have hh : Sre.header rxCode = (1, 13) := by decide +kernel
  simp only [hh]
  split
  · exact ⟨rfl, rfl, rfl⟩
  · exact rx_attempt _ 0 rfl hx rfl rfl
theorem run_failed (m : Sre.M) (h1 : m.answer = some false) (h2 : m.frames = []) (h3 : m.outcome = none) : (m.runFor 4).outcome = some .failed := by
  have hs : m.step = { m with outcome := some .failed } := by
    unfold Sre.M.step
    rw [h3, h1, h2]
    rfl
  unfold Sre.M.runFor
  rw [h3]
  simp only [Option.isSome_none, Bool.false_eq_true, if_false]
  rw [hs]
  unfold Sre.M.runFor
  rfl
theorem drive_failed (m : Sre.M) (h : (m.runFor 4).outcome = some .failed) : ∀ n, n ≠ 0 → reDrive n m = pure (m.runFor 4)
  | 0, h0 => absurd rfl h0
  | n + 1, _ => by
    unfold reDrive
    show (if (m.runFor 4).outcome.isSome = true then pure (m.runFor 4) else _) = _
    rw [h]
    rfl
theorem wp_rules {M : Model} {A : Around} {E : Value → Shared → Prop} {s : Shared} {c : Nat → Bool} {g : Nat → String} {Q : PUnit → Shared → Prop} (h : Q ⟨⟩ s) :
    ∀ l : List Nat, wpAny M A (forIn l PUnit.unit fun i (_ : PUnit) => if c i = true then (do rule (g i); pure (ForInStep.yield PUnit.unit)) else pure (ForInStep.yield PUnit.unit)) Q E s
  | [] => wpAny_pure h
  | i :: l => by
    rw [List.forIn_cons]
    refine wpAny_bind ?_
    split
    · exact wpAny_bind (wpAny_rule (wpAny_pure (wp_rules h l)))
    · exact wpAny_pure (wp_rules h l)
theorem wp_runToEnd {M : Model} {A : Around} {E : Value → Shared → Prop} {s : Shared} {m : Sre.M} {Q : Option Sre.M → Shared → Prop} (h1 : m.answer = some false) (h2 : m.frames = []) (h3 : m.outcome = none) (h : Q none s) :
    wpAny M A (reRunToEnd m) Q E s := by
  unfold reRunToEnd
  rw [drive_failed m (run_failed m h1 h2 h3) (2 ^ 64) (by decide)]
  refine wpAny_bind (wpAny_pure ?_)
  refine wpAny_bind (wp_rules ?_ _)
  rw [run_failed m h1 h2 h3]
  exact wpAny_pure h

/-! the call -/
def rxObj (U : Addr) (t u : Tok) : Obj := { cls := .type "re.Pattern", data := .fields #[.bytes #[91, 94, 48, 45, 57, 65, 45, 70, 93] t, .int 0 u, .int 0 0, .none, .none, .ref U, .int 1 0] }
def rxTup : Obj := { cls := .type "tuple", data := .seq #[.int 14 0, .int 12 0, .int 4 0, .int 1 0, .int 1 0, .int 21 0, .int 22 0, .int 48 0, .int 57 0, .int 22 0, .int 65 0, .int 70 0, .int 0 0, .int 13 0, .int 9 0, .int 21 0, .int 22 0, .int 48 0, .int 57 0, .int 22 0, .int 65 0, .int 70 0, .int 0 0, .int 1 0] }
theorem asStr_bytes (b : Array UInt8) (t : Tok) : asStr? (.bytes b t) = pure none := by kernel_rfl
theorem textOf_bytes (b : Array UInt8) (t : Tok) : reTextOf (.bytes b t) = pure (b.map (·.toNat), 1) := by
  unfold reTextOf
  rw [asStr_bytes, KBy.quiet_eq]
  rfl
theorem named_one (v : Value) : reNamed "re.Pattern.search" "search" ["string", "pos", "endpos"] 1 [v] [] = pure [some v, none, none] := by kernel_rfl
theorem meets_search (P U : Addr) (b : Array UInt8) (t p q : Tok) (hx : ∀ c ∈ b.toList, isHexU c.toNat = true) (hz : b.size ≤ 16777216) :
    Meets («re.Pattern.search» ⟨[.ref P, .bytes b t], []⟩) (fun _ R s => s.heap.get? P = some (rxObj U p q) ∧ s.heap.get? U = some rxTup ∧ R (.ok (.ret .none)) s) := by
  refine .of_wp fun prog w A R s h => ?_
  obtain ⟨h1, h2, h⟩ := h
  unfold «re.Pattern.search»
  refine wpAny_bind ?_
  unfold reTarget
  simp only [named_one, pure_bind]
  refine wpAny_bind ?_
  show wpAny _ _ (load P >>= fun o => _) _ _ s
  refine wpAny_bind (wpAny_load h1 ?_)
  refine wpAny_pure ?_
  refine wpAny_bind (wpAny_of_eq (textOf_bytes b t) ?_)
  refine wpAny_bind ?_
  show wpAny _ _ (isInstance (.bytes b t) (.type "bytes") >>= fun r => _) _ _ s
  refine wpAny_bind (wpAny_of_eq KBy.isInstance_eq ?_)
  refine wpAny_pure ?_
  refine wpAny_bind ?_
  show wpAny _ _ (seqItems? (.ref U) >>= fun r => _) _ _ s
  refine wpAny_bind (wpAny_seqItems h2 rfl (wpAny_pure (wpAny_pure ?_)))
  have hlim : min (((2 : Int) ^ 63 - 1).toNat) (b.map (·.toNat)).size = b.size := by
    rw [Array.size_map]
    have e : ((2 : Int) ^ 63 - 1).toNat = 9223372036854775807 := by decide
    rw [e]
    omega
  have hr := rx_for (b.map (·.toNat)) b.size (fun i hi => by
    have : (b.map (·.toNat)).getD i 0 = (b[i]'hi).toNat := by simp [hi]
    rw [this]
    exact hx _ (by simp))
  have key : ∀ (T : ReTarget) (code : Array Nat) (lim : Nat), code = rxCode → lim = b.size →
      wpAny (model prog w) A.in1 (reAnswer T (Sre.forSearch code (b.map (·.toNat)) 0 0 lim false)) (fun fin s' => ∃ v, fin = Fin.done (Flow.ret v) ∧ R (Except.ok (Flow.ret v)) s') (fun e s' => R (Except.error e) s') s := by
    rintro T code lim rfl rfl
    exact wpAny_bind (wp_runToEnd hr.1 hr.2.1 hr.2.2 (wpAny_pure ⟨_, rfl, h⟩))
  refine key _ _ _ ?_ hlim
  dsimp only
  decide +kernel
theorem slot_search : Slot "re.Pattern" "search" "re.Pattern.search" :=
  .of (owner := "re.Pattern") (n := "search") (by rw [typeLookup_type, builtinLookup_eq_fast]; kernel_rfl) (by decide +kernel) (by decide +kernel) (by decide +kernel)
    (by first | exact .inl (by decide +kernel) | exact .inr (by decide +kernel)) (by rw [isSubtype_type]; kernel_rfl)
theorem type_search : typeOf (.builtin "re.Pattern.search") = pure (.type "method_descriptor") := by show builtinType _ = _; rw [builtinType_eq_fast]; kernel_rfl
theorem entry_search : entryFor table "re.Pattern.search" = some Builtin.«re.Pattern.search» := entryFor_of_tree (by kernel_rfl)
theorem args_search (a b : Value) : argsOk "re.Pattern.search" ⟨[a, b], []⟩ := by
  unfold argsOk; kernel_rfl
theorem plain_pattern : PlainAttrs "re.Pattern" :=
  ⟨⟨"object.__getattribute__", by rw [typeLookup_type, builtinLookup_eq_fast]; kernel_rfl, by decide +kernel⟩, by rw [typeLookup_type, builtinLookup_eq_fast]; kernel_rfl⟩
section
variable {prog : Program} {w : World} {A : Around} {E : Value → Shared → Prop} {s : Shared} {b : Array UInt8} {t p q : Tok} {P U : Addr}
theorem call_search {Q : Value → Shared → Prop} (h1 : s.heap.get? P = some (rxObj U p q)) (h2 : s.heap.get? U = some rxTup) (hx : ∀ c ∈ b.toList, isHexU c.toNat = true) (hz : b.size ≤ 16777216) (h : Q .none s) :
    wpAny (model prog w) A (call (.builtin "re.Pattern.search") [.ref P, .bytes b t]) Q E s :=
  call_meets slot_search ⟨_, h1, rfl⟩ entry_search (args_search _ _) (meets_search P U b t p q hx hz) ⟨h1, h2, h⟩
theorem meth_search {M : Model} {pl : Sem Bool} {Q : Value × List Value → Shared → Prop} (h1 : s.heap.get? P = some (rxObj U p q)) (h : Q (.builtin "re.Pattern.search", [.ref P]) s) : wpAny M A (getMethod (.ref P) "search" pl) Q E s := by
  refine getMethod_builtin (T := "re.Pattern") ⟨_, h1, rfl⟩ plain_pattern slot_search type_search ?_ h
  intro a e
  cases e
  exact ⟨_, h1, rfl⟩
end
end
end Mine

namespace Mine
section
open PySem PySem.Builtin PySem.Builtin.Str PySem.StrLaws
set_option maxRecDepth 10000
/-- where y stands, taken from the left, none over another -/
def occL (y : List Nat) : Nat → Nat → List Nat → List Nat
  | _, _, [] => []
  | i, 0, c :: r => if y.isPrefixOf (c :: r) then i :: occL y (i + 1) (y.length - 1) r else occL y (i + 1) 0 r
  | i, k + 1, _ :: r => occL y (i + 1) k r
def replS (y z : List Nat) : Nat → List Nat → List Nat
  | _, [] => []
  | 0, c :: r => if y.isPrefixOf (c :: r) then z ++ replS y z (y.length - 1) r else c :: replS y z 0 r
  | k + 1, _ :: r => replS y z k r
theorem prefix_take (y l : List Nat) : y.isPrefixOf l = (decide (y.length ≤ l.length) && (l.take y.length == y)) := by
  rw [Bool.eq_iff_iff, List.isPrefixOf_iff_prefix, Bool.and_eq_true, decide_eq_true_eq, beq_iff_eq]
  constructor
  · rintro ⟨t, rfl⟩
    simp
  · rintro ⟨h, e⟩
    exact List.prefix_iff_eq_take.mpr e.symm
theorem occ_loop (x y : Str) (hy : 0 < y.length) : ∀ (n i : Nat) (found : Array Nat) (free : Nat), i + n = x.length + 1 → found.size ≤ i →
    (forIn (List.range' i n) (found, free) (occBody x y x.length (x.length + 1))).run.fst.toList = found.toList ++ occL y.cps.toList i (free - i) (x.cps.toList.drop i) := by
  have hxl : x.cps.toList.length = x.length := by simp [Str.length]
  have hyl : y.cps.toList.length = y.length := by simp [Str.length]
  intro n
  induction n with
  | zero =>
    intro i found free hi hf
    have : x.cps.toList.drop i = [] := List.drop_of_length_le (by omega)
    rw [this]
    simp [occL]
  | succ n ih =>
    intro i found free hi hf
    rw [List.range'_succ, List.forIn_cons]
    unfold occBody
    by_cases hlt : i < x.length
    · have hd : x.cps.toList.drop i = x.cps.toList[i]'(by omega) :: x.cps.toList.drop (i + 1) := List.drop_eq_getElem_cons (by omega)
      by_cases hfr : free ≤ i
      · have h0 : free - i = 0 := by omega
        have hp : y.cps.toList.isPrefixOf (x.cps.toList.drop i) = true ↔ (i + y.length ≤ x.length ∧ subAt x y i = true) := by
          rw [prefix_take, subAt_eq, Bool.and_eq_true, decide_eq_true_eq, hyl, List.length_drop, hxl]
          constructor
          · rintro ⟨a, b⟩; exact ⟨by omega, b⟩
          · rintro ⟨a, b⟩; exact ⟨by omega, b⟩
        by_cases hc : i + y.length ≤ x.length ∧ subAt x y i = true
        · rw [if_pos ⟨⟨⟨by show found.size < _; omega, hfr⟩, hc.1⟩, hc.2⟩]
          show (forIn (List.range' (i + 1) n) (found.push i, i + y.length) (occBody x y x.length (x.length + 1))).run.fst.toList = _
          rw [ih (i + 1) (found.push i) (i + y.length) (by omega) (by rw [Array.size_push]; omega), h0]
          have hpp := hp.mpr hc
          rw [hd] at hpp ⊢
          rw [occL, if_pos hpp, hyl]
          have e : i + y.length - (i + 1) = y.length - 1 := by omega
          rw [e]
          simp
        · rw [if_neg (fun h => hc ⟨h.1.2, h.2⟩)]
          show (forIn (List.range' (i + 1) n) (found, free) (occBody x y x.length (x.length + 1))).run.fst.toList = _
          rw [ih (i + 1) found free (by omega) (by omega), h0]
          have hpp : ¬ y.cps.toList.isPrefixOf (x.cps.toList.drop i) = true := fun h => hc (hp.mp h)
          rw [hd] at hpp ⊢
          rw [occL, if_neg hpp]
          have e : free - (i + 1) = 0 := by omega
          rw [e]
      · rw [if_neg (fun h => hfr h.1.1.2)]
        show (forIn (List.range' (i + 1) n) (found, free) (occBody x y x.length (x.length + 1))).run.fst.toList = _
        rw [ih (i + 1) found free (by omega) (by omega), hd]
        have e : free - i = (free - (i + 1)) + 1 := by omega
        rw [e, occL]
    · rw [if_neg (fun h => by have := h.1.2; omega)]
      show (forIn (List.range' (i + 1) n) (found, free) (occBody x y x.length (x.length + 1))).run.fst.toList = _
      rw [ih (i + 1) found free (by omega) (by omega)]
      have e1 : x.cps.toList.drop i = [] := List.drop_of_length_le (by omega)
      have e2 : x.cps.toList.drop (i + 1) = [] := List.drop_of_length_le (by omega)
      rw [e1, e2]
      simp [occL]
theorem occ_eqL (x y : Str) (hy : 0 < y.length) : occurrences x y 0 x.length (x.length + 1) = occL y.cps.toList 0 0 x.cps.toList := by
  rw [occ_eq, occ_loop x y hy _ 0 #[] 0 (by omega) (by simp)]
  simp
def jn (z x : List Nat) (w : Nat) : Nat → List Nat → List Nat
  | a, [] => x.drop a
  | a, c :: r => (x.drop a).take (c - a) ++ (z ++ jn z x w (c + w) r)
theorem join_jn (z x : Str) (w : Nat) : ∀ (cuts : List Nat) (a : Nat), (Str.join z (partsFrom x w a cuts)).cps.toList = jn z.cps.toList x.cps.toList w a cuts
  | [], a => by
    show (strSub x a x.length).cps.toList = _
    rw [strSub_toList]
    show List.take (x.length - a) (List.drop a x.cps.toList) = List.drop a x.cps.toList
    exact List.take_of_length_le (by simp [Str.length])
  | c :: r, a => by
    obtain ⟨p, q, e⟩ := partsFrom_ne x w (c + w) r
    have ih := join_jn z x w r (c + w)
    show (Str.join z (strSub x a c :: partsFrom x w (c + w) r)).cps.toList = _
    rw [e] at ih ⊢
    show (strSub x a c ++ z ++ Str.join z (p :: q)).cps.toList = _
    rw [Str.cps_append, Str.cps_append, Array.toList_append, Array.toList_append, ih, strSub_toList, List.append_assoc]
    rfl
theorem jn_repl (y z x : List Nat) (hy : 0 < y.length) : ∀ (r : List Nat) (i skip a : Nat), x.drop i = r → (skip = 0 → a ≤ i) → (0 < skip → a = i + skip) →
    jn z x y.length a (occL y i skip r) = (x.drop a).take (i - a) ++ replS y z skip r
  | [], i, skip, a, hr, h0, h1 => by
    have hi : x.length ≤ i := by
      have := congrArg List.length hr
      simp at this
      omega
    show x.drop a = (x.drop a).take (i - a) ++ replS y z skip []
    have : replS y z skip [] = [] := by cases skip <;> rfl
    rw [this, List.append_nil]
    by_cases hs : skip = 0
    · rw [List.take_of_length_le (by simp; omega)]
    · have := h1 (by omega)
      rw [List.drop_of_length_le (by omega)]
      simp
  | c :: r, i, 0, a, hr, h0, h1 => by
    have hr' : x.drop (i + 1) = r := by rw [← List.tail_drop, hr]; rfl
    have ha := h0 rfl
    unfold occL replS
    split
    · show (x.drop a).take (i - a) ++ (z ++ jn z x y.length (i + y.length) (occL y (i + 1) (y.length - 1) r)) = _
      rw [jn_repl y z x hy r (i + 1) (y.length - 1) (i + y.length) hr' (fun h => by omega) (fun h => by omega)]
      have e : i + 1 - (i + y.length) = 0 := by omega
      rw [e, List.take_zero, List.nil_append]
    · rw [jn_repl y z x hy r (i + 1) 0 a hr' (fun _ => by omega) (fun h => absurd h (Nat.lt_irrefl _))]
      have e : i + 1 - a = (i - a) + 1 := by omega
      have hg : (x.drop a)[i - a]? = some c := by
        rw [List.getElem?_drop]
        have : a + (i - a) = i + 0 := by omega
        rw [this, ← List.getElem?_drop, hr]
        rfl
      rw [e, List.take_add_one, hg]
      simp
  | c :: r, i, k + 1, a, hr, h0, h1 => by
    have hr' : x.drop (i + 1) = r := by rw [← List.tail_drop, hr]; rfl
    have ha := h1 (by omega)
    unfold occL replS
    rw [jn_repl y z x hy r (i + 1) k a hr' (fun h => by omega) (fun h => by omega)]
    have e : i + 1 - a = 0 := by omega
    have e' : i - a = 0 := by omega
    rw [e, e', List.take_zero]
theorem replace_eq (x y z : Str) (hy : 0 < y.length) : (Txt.replace x y z).cps.toList = replS y.cps.toList z.cps.toList 0 x.cps.toList := by
  have hyl : y.cps.toList.length = y.length := by simp [Str.length]
  have key := jn_repl y.cps.toList z.cps.toList x.cps.toList (by omega) x.cps.toList 0 0 0 rfl (fun _ => Nat.le_refl _) (fun h => absurd h (Nat.lt_irrefl _))
  rw [← occ_eqL x y hy, hyl] at key
  simp only [Nat.sub_self, List.take_zero, List.nil_append] at key
  unfold Txt.replace
  have h0 : (y.length == 0) = false := by simp; omega
  rw [h0, Bool.false_and, Bool.or_false]
  split
  · rename_i h
    rw [List.isEmpty_iff.mp h] at key
    rw [← key]
    rfl
  · rw [glued_eq_join, partsBetween_eq, join_jn, key]
theorem replS_len (y z : List Nat) : ∀ (k : Nat) (l : List Nat), (replS y z k l).length ≤ l.length * (z.length + 1)
  | 0, [] => by simp [replS]
  | k + 1, [] => by simp [replS]
  | 0, c :: r => by
    unfold replS
    rw [List.length_cons, Nat.add_mul, Nat.one_mul]
    split
    · have := replS_len y z (y.length - 1) r
      rw [List.length_append]; omega
    · have := replS_len y z 0 r
      rw [List.length_cons]; omega
  | k + 1, c :: r => by
    unfold replS
    rw [List.length_cons, Nat.add_mul, Nat.one_mul]
    have := replS_len y z k r
    omega
theorem replace_len (x y z : Str) (hy : 0 < y.length) : (Txt.replace x y z).length ≤ x.length * (z.length + 1) := by
  have h := replS_len y.cps.toList z.cps.toList 0 x.cps.toList
  rw [← replace_eq x y z hy] at h
  simpa [Str.length] using h
end
end Mine

namespace Mine
section
open PySem PySem.Builtin PySem.Builtin.Str PySem.StrLaws
set_option maxRecDepth 10000
theorem replS_skip (y z : List Nat) : ∀ (u r : List Nat), replS y z u.length (u ++ r) = replS y z 0 r
  | [], _ => rfl
  | _ :: u, r => by
    show replS y z (u.length + 1) (_ :: (u ++ r)) = _
    rw [replS]
    exact replS_skip y z u r
theorem replS_here (y z r : List Nat) (hy : 0 < y.length) : replS y z 0 (y ++ r) = z ++ replS y z 0 r := by
  cases y with
  | nil => exact absurd hy (Nat.lt_irrefl _)
  | cons c u =>
    show replS (c :: u) z 0 (c :: (u ++ r)) = _
    rw [replS, if_pos (by rw [List.isPrefixOf_iff_prefix]; exact ⟨r, rfl⟩)]
    show z ++ replS (c :: u) z u.length (u ++ r) = _
    rw [replS_skip]
theorem replS_flat (y z : List Nat) (e e' : Nat → List Nat) (l : List Nat) (h : ∀ c ∈ l, ∀ r, replS y z 0 (e c ++ r) = e' c ++ replS y z 0 r) : replS y z 0 (l.flatMap e) = l.flatMap e' := by
  induction l with
  | nil => rfl
  | cons c l ih =>
    rw [List.flatMap_cons, List.flatMap_cons, h c (.head _), ih fun c hc => h c (.tail _ hc)]
theorem replS_one (c : Nat) (z l : List Nat) : replS [c] z 0 l = l.flatMap fun k => if k = c then z else [k] := by
  induction l with
  | nil => rfl
  | cons k l ih =>
    rw [List.flatMap_cons, replS]
    by_cases h : k = c
    · subst h
      simp [ih]
    · have : ¬ ([c].isPrefixOf (k :: l) = true) := by simp [List.isPrefixOf]; exact fun e => h e.symm
      rw [if_neg this, if_neg h, ih]
      rfl
/-- a sign that is no & is passed by -/
theorem replS_pass (u z r : List Nat) (c : Nat) (hc : c ≠ 38) : replS (38 :: u) z 0 (c :: r) = c :: replS (38 :: u) z 0 r := by
  rw [replS, if_neg]
  simp [List.isPrefixOf]
  exact fun e => absurd e.symm hc

/-- what escape writes for a sign -/
def escC (q : Bool) (c : Nat) : List Nat :=
  if c = 38 then [38, 97, 109, 112, 59] else if c = 60 then [38, 108, 116, 59] else if c = 62 then [38, 103, 116, 59]
  else if q && c == 34 then [38, 113, 117, 111, 116, 59] else if q && c == 39 then [38, 35, 120, 50, 55, 59] else [c]
def escT (q : Bool) (x : Str) : Str :=
  let s := Txt.replace (Txt.replace (Txt.replace x (Str.ofString "&") (Str.ofString "&amp;")) (Str.ofString "<") (Str.ofString "&lt;")) (Str.ofString ">") (Str.ofString "&gt;")
  if q then Txt.replace (Txt.replace s (Str.ofString "\"") (Str.ofString "&quot;")) (Str.ofString "'") (Str.ofString "&#x27;") else s
theorem repl_one' (x z : Str) (c : Nat) (y : Str) (hy : y.cps.toList = [c]) : (Txt.replace x y z).cps.toList = x.cps.toList.flatMap fun k => if k = c then z.cps.toList else [k] := by
  have : 0 < y.length := by
    have := congrArg List.length hy
    simp at this
    show 0 < y.cps.size
    omega
  rw [replace_eq x y z this, hy, replS_one]
theorem escT_eq (q : Bool) (x : Str) : (escT q x).cps.toList = x.cps.toList.flatMap (escC q) := by
  have e1 : (Str.ofString "&").cps.toList = [38] := by decide +kernel
  have e2 : (Str.ofString "<").cps.toList = [60] := by decide +kernel
  have e3 : (Str.ofString ">").cps.toList = [62] := by decide +kernel
  have e4 : (Str.ofString "\"").cps.toList = [34] := by decide +kernel
  have e5 : (Str.ofString "'").cps.toList = [39] := by decide +kernel
  have f1 : (Str.ofString "&amp;").cps.toList = [38, 97, 109, 112, 59] := by decide +kernel
  have f2 : (Str.ofString "&lt;").cps.toList = [38, 108, 116, 59] := by decide +kernel
  have f3 : (Str.ofString "&gt;").cps.toList = [38, 103, 116, 59] := by decide +kernel
  have f4 : (Str.ofString "&quot;").cps.toList = [38, 113, 117, 111, 116, 59] := by decide +kernel
  have f5 : (Str.ofString "&#x27;").cps.toList = [38, 35, 120, 50, 55, 59] := by decide +kernel
  unfold escT
  cases q with
  | false =>
    simp only [Bool.false_eq_true, if_false]
    rw [repl_one' _ _ _ _ e3, repl_one' _ _ _ _ e2, repl_one' _ _ _ _ e1, f1, f2, f3, List.flatMap_assoc, List.flatMap_assoc]
    congr 1
    funext c
    unfold escC
    by_cases h1 : c = 38
    · subst h1; rfl
    by_cases h2 : c = 60
    · subst h2; rfl
    by_cases h3 : c = 62
    · subst h3; rfl
    simp [h1, h2, h3]
  | true =>
    simp only [if_true]
    rw [repl_one' _ _ _ _ e5, repl_one' _ _ _ _ e4, repl_one' _ _ _ _ e3, repl_one' _ _ _ _ e2, repl_one' _ _ _ _ e1, f1, f2, f3, f4, f5, List.flatMap_assoc, List.flatMap_assoc, List.flatMap_assoc, List.flatMap_assoc]
    congr 1
    funext c
    unfold escC
    by_cases h1 : c = 38
    · subst h1; rfl
    by_cases h2 : c = 60
    · subst h2; rfl
    by_cases h3 : c = 62
    · subst h3; rfl
    by_cases h4 : c = 34
    · subst h4; rfl
    by_cases h5 : c = 39
    · subst h5; rfl
    simp [h1, h2, h3, h4, h5]
/-- what _law_put_back makes of a text -/
def backT (x : Str) : Str :=
  Txt.replace (Txt.replace (Txt.replace (Txt.replace (Txt.replace x (Str.ofString "&lt;") (Str.ofString "<")) (Str.ofString "&gt;") (Str.ofString ">")) (Str.ofString "&quot;") (Str.ofString "\"")) (Str.ofString "&#x27;") (Str.ofString "'")) (Str.ofString "&amp;") (Str.ofString "&")
/-- the stages: signs below the bit are put back -/
def stg (q a b d f : Bool) (c : Nat) : List Nat :=
  if c = 38 then [38, 97, 109, 112, 59] else if c = 60 then (if a then [c] else [38, 108, 116, 59]) else if c = 62 then (if b then [c] else [38, 103, 116, 59])
  else if q && c == 34 then (if d then [c] else [38, 113, 117, 111, 116, 59]) else if q && c == 39 then (if f then [c] else [38, 35, 120, 50, 55, 59]) else [c]
theorem pass_all (u z r : List Nat) : ∀ v : List Nat, (∀ c ∈ v, c ≠ 38) → replS (38 :: u) z 0 (v ++ r) = v ++ replS (38 :: u) z 0 r
  | [], _ => rfl
  | c :: v, hv => by
    show replS (38 :: u) z 0 (c :: (v ++ r)) = c :: (v ++ _)
    rw [replS_pass u z (v ++ r) c (hv c (.head _)), pass_all u z r v fun c hc => hv c (.tail _ hc)]
theorem pass_ref (u v z r : List Nat) (hv : ∀ c ∈ v, c ≠ 38) (h : (38 :: u).isPrefixOf (38 :: (v ++ r)) = false) : replS (38 :: u) z 0 ((38 :: v) ++ r) = (38 :: v) ++ replS (38 :: u) z 0 r := by
  show replS (38 :: u) z 0 (38 :: (v ++ r)) = 38 :: (v ++ _)
  rw [replS, if_neg (by rw [h]; exact Bool.false_ne_true), pass_all u z r v hv]
theorem pass_one (u z r : List Nat) (c : Nat) (hc : c ≠ 38) : replS (38 :: u) z 0 ([c] ++ r) = [c] ++ replS (38 :: u) z 0 r := replS_pass u z r c hc
theorem stage_lt (q : Bool) (l : List Nat) : replS [38, 108, 116, 59] [60] 0 (l.flatMap (stg q false false false false)) = l.flatMap (stg q true false false false) := by
  refine replS_flat _ _ _ _ _ fun c _ r => ?_
  by_cases h1 : c = 38
  · subst h1
    exact pass_ref _ _ _ _ (by decide) rfl
  by_cases h2 : c = 60
  · subst h2
    exact replS_here _ _ _ (by decide)
  by_cases h3 : c = 62
  · subst h3
    exact pass_ref _ _ _ _ (by decide) rfl
  by_cases h4 : c = 34
  · subst h4
    cases q
    · exact pass_one _ _ _ _ (by decide)
    · exact pass_ref _ _ _ _ (by decide) rfl
  by_cases h5 : c = 39
  · subst h5
    cases q
    · exact pass_one _ _ _ _ (by decide)
    · exact pass_ref _ _ _ _ (by decide) rfl
  simp only [stg, h1, h2, h3, if_false, beq_eq_false_iff_ne.mpr h4, beq_eq_false_iff_ne.mpr h5, Bool.and_false, Bool.false_eq_true]
  exact pass_one _ _ _ _ h1
theorem stage_gt (q : Bool) (l : List Nat) : replS [38, 103, 116, 59] [62] 0 (l.flatMap (stg q true false false false)) = l.flatMap (stg q true true false false) := by
  refine replS_flat _ _ _ _ _ fun c _ r => ?_
  by_cases h1 : c = 38
  · subst h1
    exact pass_ref _ _ _ _ (by decide) rfl
  by_cases h2 : c = 60
  · subst h2
    exact pass_one _ _ _ _ (by decide)
  by_cases h3 : c = 62
  · subst h3
    exact replS_here _ _ _ (by decide)
  by_cases h4 : c = 34
  · subst h4
    cases q
    · exact pass_one _ _ _ _ (by decide)
    · exact pass_ref _ _ _ _ (by decide) rfl
  by_cases h5 : c = 39
  · subst h5
    cases q
    · exact pass_one _ _ _ _ (by decide)
    · exact pass_ref _ _ _ _ (by decide) rfl
  simp only [stg, h1, h2, h3, if_false, beq_eq_false_iff_ne.mpr h4, beq_eq_false_iff_ne.mpr h5, Bool.and_false, Bool.false_eq_true]
  exact pass_one _ _ _ _ h1
theorem stage_quot (q : Bool) (l : List Nat) : replS [38, 113, 117, 111, 116, 59] [34] 0 (l.flatMap (stg q true true false false)) = l.flatMap (stg q true true true false) := by
  refine replS_flat _ _ _ _ _ fun c _ r => ?_
  by_cases h1 : c = 38
  · subst h1
    exact pass_ref _ _ _ _ (by decide) rfl
  by_cases h2 : c = 60
  · subst h2
    exact pass_one _ _ _ _ (by decide)
  by_cases h3 : c = 62
  · subst h3
    exact pass_one _ _ _ _ (by decide)
  by_cases h4 : c = 34
  · subst h4
    cases q
    · exact pass_one _ _ _ _ (by decide)
    · exact replS_here _ _ _ (by decide)
  by_cases h5 : c = 39
  · subst h5
    cases q
    · exact pass_one _ _ _ _ (by decide)
    · exact pass_ref _ _ _ _ (by decide) rfl
  simp only [stg, h1, h2, h3, if_false, beq_eq_false_iff_ne.mpr h4, beq_eq_false_iff_ne.mpr h5, Bool.and_false, Bool.false_eq_true]
  exact pass_one _ _ _ _ h1
theorem stage_x27 (q : Bool) (l : List Nat) : replS [38, 35, 120, 50, 55, 59] [39] 0 (l.flatMap (stg q true true true false)) = l.flatMap (stg q true true true true) := by
  refine replS_flat _ _ _ _ _ fun c _ r => ?_
  by_cases h1 : c = 38
  · subst h1
    exact pass_ref _ _ _ _ (by decide) rfl
  by_cases h2 : c = 60
  · subst h2
    exact pass_one _ _ _ _ (by decide)
  by_cases h3 : c = 62
  · subst h3
    exact pass_one _ _ _ _ (by decide)
  by_cases h4 : c = 34
  · subst h4
    cases q
    · exact pass_one _ _ _ _ (by decide)
    · exact pass_one _ _ _ _ (by decide)
  by_cases h5 : c = 39
  · subst h5
    cases q
    · exact pass_one _ _ _ _ (by decide)
    · exact replS_here _ _ _ (by decide)
  simp only [stg, h1, h2, h3, if_false, beq_eq_false_iff_ne.mpr h4, beq_eq_false_iff_ne.mpr h5, Bool.and_false, Bool.false_eq_true]
  exact pass_one _ _ _ _ h1
theorem stage_amp (q : Bool) (l : List Nat) : replS [38, 97, 109, 112, 59] [38] 0 (l.flatMap (stg q true true true true)) = l.flatMap (fun c => [c]) := by
  refine replS_flat _ _ _ _ _ fun c _ r => ?_
  by_cases h1 : c = 38
  · subst h1
    exact replS_here _ _ _ (by decide)
  by_cases h2 : c = 60
  · subst h2
    exact pass_one _ _ _ _ (by decide)
  by_cases h3 : c = 62
  · subst h3
    exact pass_one _ _ _ _ (by decide)
  by_cases h4 : c = 34
  · subst h4
    cases q
    · exact pass_one _ _ _ _ (by decide)
    · exact pass_one _ _ _ _ (by decide)
  by_cases h5 : c = 39
  · subst h5
    cases q
    · exact pass_one _ _ _ _ (by decide)
    · exact pass_one _ _ _ _ (by decide)
  simp only [stg, h1, h2, h3, if_false, beq_eq_false_iff_ne.mpr h4, beq_eq_false_iff_ne.mpr h5, Bool.and_false, Bool.false_eq_true]
  exact pass_one _ _ _ _ h1
theorem stg_esc (q : Bool) : stg q false false false false = escC q := by
  funext c
  rfl
theorem back_esc (q : Bool) (x : Str) (e : Str) (he : e.cps.toList = x.cps.toList.flatMap (escC q)) : backT e = x := by
  have e1 : (Str.ofString "&").cps.toList = [38] := by decide +kernel
  have e2 : (Str.ofString "<").cps.toList = [60] := by decide +kernel
  have e3 : (Str.ofString ">").cps.toList = [62] := by decide +kernel
  have e4 : (Str.ofString "\"").cps.toList = [34] := by decide +kernel
  have e5 : (Str.ofString "'").cps.toList = [39] := by decide +kernel
  have f1 : (Str.ofString "&amp;").cps.toList = [38, 97, 109, 112, 59] := by decide +kernel
  have f2 : (Str.ofString "&lt;").cps.toList = [38, 108, 116, 59] := by decide +kernel
  have f3 : (Str.ofString "&gt;").cps.toList = [38, 103, 116, 59] := by decide +kernel
  have f4 : (Str.ofString "&quot;").cps.toList = [38, 113, 117, 111, 116, 59] := by decide +kernel
  have f5 : (Str.ofString "&#x27;").cps.toList = [38, 35, 120, 50, 55, 59] := by decide +kernel
  have g1 : 0 < (Str.ofString "&amp;").length := by decide +kernel
  have g2 : 0 < (Str.ofString "&lt;").length := by decide +kernel
  have g3 : 0 < (Str.ofString "&gt;").length := by decide +kernel
  have g4 : 0 < (Str.ofString "&quot;").length := by decide +kernel
  have g5 : 0 < (Str.ofString "&#x27;").length := by decide +kernel
  apply Str.ext'
  apply Array.toList_inj.mp
  unfold backT
  rw [replace_eq _ _ _ g1, replace_eq _ _ _ g5, replace_eq _ _ _ g4, replace_eq _ _ _ g3, replace_eq _ _ _ g2, e1, e2, e3, e4, e5, f1, f2, f3, f4, f5, he, ← stg_esc,
    stage_lt, stage_gt, stage_quot, stage_x27, stage_amp]
  simp
end
end Mine

namespace Mine
section
open PySem PySem.Builtin
set_option maxRecDepth 10000
def ordL : List Nat → List Nat → Ordering
  | [], [] => .eq
  | [], _ :: _ => .lt
  | _ :: _, [] => .gt
  | x :: xs, y :: ys => if x < y then .lt else if x > y then .gt else ordL xs ys
theorem order_ordL : ∀ a b : List UInt8, Bytes.order a b = ordL (a.map (·.toNat)) (b.map (·.toNat))
  | [], [] => rfl
  | [], _ :: _ => rfl
  | _ :: _, [] => rfl
  | x :: xs, y :: ys => by
    show (if x < y then _ else if x > y then _ else Bytes.order xs ys) = (if x.toNat < y.toNat then _ else if x.toNat > y.toNat then _ else ordL _ _)
    rw [order_ordL xs ys]
    simp only [UInt8.lt_iff_toNat_lt, gt_iff_lt]
def Before (u v : List Nat) : Prop := ∃ p x s y t, u = p ++ x :: s ∧ v = p ++ y :: t ∧ x < y
theorem ordL_pre : ∀ (p a b : List Nat), ordL (p ++ a) (p ++ b) = ordL a b
  | [], _, _ => rfl
  | x :: p, a, b => by
    show (if x < x then _ else if x > x then _ else ordL (p ++ a) (p ++ b)) = _
    rw [if_neg (Nat.lt_irrefl _), if_neg (Nat.lt_irrefl _), ordL_pre p a b]
theorem Before.lt {u v : List Nat} (h : Before u v) (a b : List Nat) : ordL (u ++ a) (v ++ b) = .lt := by
  obtain ⟨p, x, s, y, t, rfl, rfl, hxy⟩ := h
  rw [List.append_assoc, List.append_assoc, ordL_pre]
  show (if x < y then _ else _) = _
  rw [if_pos hxy]
theorem Before.gt {u v : List Nat} (h : Before u v) (a b : List Nat) : ordL (v ++ a) (u ++ b) = .gt := by
  obtain ⟨p, x, s, y, t, rfl, rfl, hxy⟩ := h
  rw [List.append_assoc, List.append_assoc, ordL_pre]
  show (if y < x then _ else if y > x then _ else _) = _
  rw [if_neg (by omega), if_pos hxy]
theorem ordL_flat (f : Nat → List Nat) (r : Nat → Nat) (D : Nat → Prop) (hne : ∀ a, D a → f a ≠ []) (hlt : ∀ a b, D a → D b → r a < r b → Before (f a) (f b)) (hinj : ∀ a b, D a → D b → r a = r b → a = b) :
    ∀ l₁ l₂ : List Nat, (∀ a ∈ l₁, D a) → (∀ a ∈ l₂, D a) → ordL (l₁.flatMap f) (l₂.flatMap f) = ordL (l₁.map r) (l₂.map r)
  | [], [], _, _ => rfl
  | [], b :: l, _, h2 => by
    have := hne b (h2 b (.head _))
    rw [List.flatMap_cons]
    cases hb : f b with
    | nil => exact absurd hb this
    | cons x s => rfl
  | a :: l, [], h1, _ => by
    have := hne a (h1 a (.head _))
    rw [List.flatMap_cons]
    cases hb : f a with
    | nil => exact absurd hb this
    | cons x s => rfl
  | a :: l₁, b :: l₂, h1, h2 => by
    rw [List.flatMap_cons, List.flatMap_cons, List.map_cons, List.map_cons]
    show _ = (if r a < r b then _ else if r a > r b then _ else ordL (l₁.map r) (l₂.map r))
    by_cases h : r a < r b
    · rw [if_pos h, (hlt a b (h1 a (.head _)) (h2 b (.head _)) h).lt]
    · rw [if_neg h]
      by_cases h' : r a > r b
      · rw [if_pos h', (hlt b a (h2 b (.head _)) (h1 a (.head _)) h').gt]
      · rw [if_neg h']
        have := hinj a b (h1 a (.head _)) (h2 b (.head _)) (by omega)
        subst this
        rw [ordL_pre]
        exact ordL_flat f r D hne hlt hinj l₁ l₂ (fun c hc => h1 c (.tail _ hc)) fun c hc => h2 c (.tail _ hc)
/-! hex -/
def hxD (n : Nat) : Nat := if n < 10 then 48 + n else 55 + n
def hx2 (n : Nat) : List Nat := [hxD (n / 16), hxD (n % 16)]
theorem hx2_before (a b : Nat) (h : a < b) : Before (hx2 a) (hx2 b) := by
  have mono : ∀ m n, m < n → hxD m < hxD n := fun m n h => by unfold hxD; (repeat' split) <;> omega
  by_cases h1 : a / 16 < b / 16
  · exact ⟨[], _, _, _, _, rfl, rfl, mono _ _ h1⟩
  · have e : a / 16 = b / 16 := by omega
    exact ⟨[hxD (a / 16)], hxD (a % 16), [], hxD (b % 16), [], rfl, by rw [e]; rfl, mono _ _ (by omega)⟩
/-! UTF-8 -/
def u8 (c : Nat) : List Nat :=
  if c < 0x80 then [c] else if c < 0x800 then [0xC0 + c / 64, 0x80 + c % 64] else if c < 0x10000 then [0xE0 + c / 4096, 0x80 + c / 64 % 64, 0x80 + c % 64]
  else [0xF0 + c / 262144, 0x80 + c / 4096 % 64, 0x80 + c / 64 % 64, 0x80 + c % 64]
theorem u8_eq (c : Nat) (hc : c < 0x110000) : (Str.utf8Of c).map (·.toNat) = u8 c := by
  have t : ∀ n, n < 256 → n.toUInt8.toNat = n := fun n h => by simp [Nat.toUInt8, UInt8.toNat_ofNat', Nat.mod_eq_of_lt h]
  unfold Str.utf8Of u8
  split
  · simp [t c (by omega)]
  split
  · simp only [List.map_cons, List.map_nil]; rw [t _ (by omega), t _ (by omega)]
  split
  · simp only [List.map_cons, List.map_nil]; rw [t _ (by omega), t _ (by omega), t _ (by omega)]
  · simp only [List.map_cons, List.map_nil]; rw [t _ (by omega), t _ (by omega), t _ (by omega), t _ (by omega)]
theorem before0 {x y : Nat} {s t : List Nat} (h : x < y) : Before (x :: s) (y :: t) := ⟨[], x, s, y, t, rfl, rfl, h⟩
theorem before1 {x a b : Nat} {s t : List Nat} (h : Before (a :: s) (b :: t)) : Before (x :: a :: s) (x :: b :: t) := by
  obtain ⟨p, u, s', v, t', e1, e2, hl⟩ := h
  exact ⟨x :: p, u, s', v, t', by rw [e1]; rfl, by rw [e2]; rfl, hl⟩
theorem before1' {x y a b : Nat} {s t : List Nat} (e : x = y) (h : Before (a :: s) (b :: t)) : Before (x :: a :: s) (y :: b :: t) := e ▸ before1 h
theorem u8_before (c d : Nat) (hc : c < 0x110000) (hd : d < 0x110000) (h : c < d) : Before (u8 c) (u8 d) := by
  unfold u8
  by_cases c1 : c < 0x80
  · rw [if_pos c1]
    by_cases d1 : d < 0x80
    · rw [if_pos d1]; exact before0 h
    · rw [if_neg d1]; (repeat' split) <;> exact before0 (by omega)
  rw [if_neg c1, if_neg (show ¬ d < 0x80 by omega)]
  by_cases c2 : c < 0x800
  · rw [if_pos c2]
    by_cases d2 : d < 0x800
    · rw [if_pos d2]
      by_cases e : c / 64 < d / 64
      · exact before0 (by omega)
      · exact before1' (by omega) (before0 (by omega))
    · rw [if_neg d2]; split <;> exact before0 (by omega)
  rw [if_neg c2, if_neg (show ¬ d < 0x800 by omega)]
  by_cases c3 : c < 0x10000
  · rw [if_pos c3]
    by_cases d3 : d < 0x10000
    · rw [if_pos d3]
      by_cases e : c / 4096 < d / 4096
      · exact before0 (by omega)
      · refine before1' (by omega) ?_
        by_cases e' : c / 64 % 64 < d / 64 % 64
        · exact before0 (by omega)
        · exact before1' (by omega) (before0 (by omega))
    · rw [if_neg d3]; exact before0 (by omega)
  rw [if_neg c3, if_neg (show ¬ d < 0x10000 by omega)]
  by_cases e : c / 262144 < d / 262144
  · exact before0 (by omega)
  · refine before1' (by omega) ?_
    by_cases e' : c / 4096 % 64 < d / 4096 % 64
    · exact before0 (by omega)
    · refine before1' (by omega) ?_
      by_cases e'' : c / 64 % 64 < d / 64 % 64
      · exact before0 (by omega)
      · exact before1' (by omega) (before0 (by omega))
/-! the signs' ranks -/
def rk (q : Bool) (c : Nat) : Nat :=
  if c = 38 then 191 else if c = 62 then 192 else if c = 60 then 193 else if q && c == 39 then 190 else if q && c == 34 then 194 else 5 * c
theorem cls (q : Bool) (c : Nat) :
    (c = 38 ∧ escC q c = [38, 97, 109, 112, 59] ∧ rk q c = 191) ∨ (c = 62 ∧ escC q c = [38, 103, 116, 59] ∧ rk q c = 192) ∨ (c = 60 ∧ escC q c = [38, 108, 116, 59] ∧ rk q c = 193) ∨
    (c = 39 ∧ escC q c = [38, 35, 120, 50, 55, 59] ∧ rk q c = 190) ∨ (c = 34 ∧ escC q c = [38, 113, 117, 111, 116, 59] ∧ rk q c = 194) ∨ (c ≠ 38 ∧ escC q c = [c] ∧ rk q c = 5 * c) := by
  by_cases h1 : c = 38
  · subst h1; exact .inl ⟨rfl, rfl, rfl⟩
  by_cases h2 : c = 62
  · subst h2; exact .inr (.inl ⟨rfl, rfl, rfl⟩)
  by_cases h3 : c = 60
  · subst h3; exact .inr (.inr (.inl ⟨rfl, rfl, rfl⟩))
  by_cases h4 : (q && c == 39) = true
  · have h4' := h4
    simp only [Bool.and_eq_true, beq_iff_eq] at h4'
    obtain ⟨rfl, rfl⟩ := h4'
    exact .inr (.inr (.inr (.inl ⟨rfl, rfl, rfl⟩)))
  by_cases h5 : (q && c == 34) = true
  · have h5' := h5
    simp only [Bool.and_eq_true, beq_iff_eq] at h5'
    obtain ⟨rfl, rfl⟩ := h5'
    exact .inr (.inr (.inr (.inr (.inl ⟨rfl, rfl, rfl⟩))))
  refine .inr (.inr (.inr (.inr (.inr ⟨h1, ?_, ?_⟩))))
  · unfold escC
    rw [if_neg h1, if_neg h3, if_neg h2, if_neg h5, if_neg h4]
  · unfold rk
    rw [if_neg h1, if_neg h2, if_neg h3, if_neg h4, if_neg h5]
theorem esc_before (q : Bool) (a b : Nat) (h : rk q a < rk q b) : Before (escC q a) (escC q b) := by
  rcases cls q a with ⟨_, ea, ra⟩ | ⟨_, ea, ra⟩ | ⟨_, ea, ra⟩ | ⟨_, ea, ra⟩ | ⟨_, ea, ra⟩ | ⟨na, ea, ra⟩ <;>
  rcases cls q b with ⟨_, eb, rb⟩ | ⟨_, eb, rb⟩ | ⟨_, eb, rb⟩ | ⟨_, eb, rb⟩ | ⟨_, eb, rb⟩ | ⟨nb, eb, rb⟩ <;>
  rw [ra, rb] at h <;> rw [ea, eb] <;> first
    | (exfalso; omega)
    | exact before1 (before0 (by decide))
    | exact before0 (by omega)
theorem rk_inj (q : Bool) (a b : Nat) (h : rk q a = rk q b) : a = b := by
  rcases cls q a with ⟨_, ea, ra⟩ | ⟨_, ea, ra⟩ | ⟨_, ea, ra⟩ | ⟨_, ea, ra⟩ | ⟨_, ea, ra⟩ | ⟨na, ea, ra⟩ <;>
  rcases cls q b with ⟨_, eb, rb⟩ | ⟨_, eb, rb⟩ | ⟨_, eb, rb⟩ | ⟨_, eb, rb⟩ | ⟨_, eb, rb⟩ | ⟨nb, eb, rb⟩ <;>
  rw [ra, rb] at h <;> omega
theorem escC_ne (q : Bool) (a : Nat) : escC q a ≠ [] := by
  rcases cls q a with ⟨_, ea, ra⟩ | ⟨_, ea, ra⟩ | ⟨_, ea, ra⟩ | ⟨_, ea, ra⟩ | ⟨_, ea, ra⟩ | ⟨na, ea, ra⟩ <;> rw [ea] <;> simp
theorem escC_len (q : Bool) (a : Nat) : (escC q a).length ≤ 6 := by
  rcases cls q a with ⟨_, ea, ra⟩ | ⟨_, ea, ra⟩ | ⟨_, ea, ra⟩ | ⟨_, ea, ra⟩ | ⟨_, ea, ra⟩ | ⟨na, ea, ra⟩ <;> rw [ea] <;> simp
theorem escC_ok (q : Bool) (P : Nat → Prop) (hP : ∀ c, c < 128 → P c) (a : Nat) (ha : P a) : ∀ c ∈ escC q a, P c := by
  rcases cls q a with ⟨_, ea, ra⟩ | ⟨_, ea, ra⟩ | ⟨_, ea, ra⟩ | ⟨_, ea, ra⟩ | ⟨_, ea, ra⟩ | ⟨na, ea, ra⟩ <;> rw [ea]
  case inr.inr.inr.inr.inr => intro c hc; rw [List.mem_singleton.mp hc]; exact ha
  all_goals (intro c hc; refine hP c ?_; simp only [List.mem_cons, List.not_mem_nil, or_false] at hc; omega)

/-- the writing of a text -/
def b16 (b : List UInt8) : List UInt8 := b.flatMap fun c => [(hxD (c.toNat / 16)).toUInt8, (hxD (c.toNat % 16)).toUInt8]
theorem b16_nat (b : List UInt8) : (b16 b).map (·.toNat) = (b.map (·.toNat)).flatMap hx2 := by
  have t : ∀ n, n < 256 → n.toUInt8.toNat = n := fun n h => by simp [Nat.toUInt8, UInt8.toNat_ofNat', Nat.mod_eq_of_lt h]
  have hd : ∀ n, n < 16 → hxD n < 256 := fun n h => by unfold hxD; split <;> omega
  unfold b16
  induction b with
  | nil => rfl
  | cons c b ih =>
    have hc := c.toNat_lt
    rw [List.flatMap_cons, List.map_append, ih]
    simp only [List.map_cons, List.map_nil, List.flatMap_cons, hx2]
    rw [t _ (hd _ (by omega)), t _ (hd _ (by omega))]
def writ (q : Bool) (l : List Nat) : List UInt8 := b16 ((l.flatMap (escC q)).flatMap Str.utf8Of)
theorem map_flat (f : Nat → List UInt8) (g : UInt8 → Nat) (h : Nat → List Nat) (l : List Nat) (e : ∀ c ∈ l, (f c).map g = h c) : (l.flatMap f).map g = l.flatMap h := by
  induction l with
  | nil => rfl
  | cons c l ih => rw [List.flatMap_cons, List.flatMap_cons, List.map_append, e c (.head _), ih fun c hc => e c (.tail _ hc)]
/-- THE ORDER: the writings stand as the ranks -/
theorem writ_order (q : Bool) (l₁ l₂ : List Nat) (h1 : ∀ c ∈ l₁, c < 0x110000) (h2 : ∀ c ∈ l₂, c < 0x110000) : Bytes.order (writ q l₁) (writ q l₂) = ordL (l₁.map (rk q)) (l₂.map (rk q)) := by
  have k1 : ∀ c ∈ l₁.flatMap (escC q), c < 0x110000 := fun c hc => by
    obtain ⟨a, ha, hc⟩ := List.mem_flatMap.mp hc
    exact escC_ok q (· < 0x110000) (fun c h => by omega) a (h1 a ha) c hc
  have k2 : ∀ c ∈ l₂.flatMap (escC q), c < 0x110000 := fun c hc => by
    obtain ⟨a, ha, hc⟩ := List.mem_flatMap.mp hc
    exact escC_ok q (· < 0x110000) (fun c h => by omega) a (h2 a ha) c hc
  have b8 : ∀ l : List UInt8, ∀ a ∈ l.map (·.toNat), a < 256 := fun l a ha => by
    obtain ⟨c, _, rfl⟩ := List.mem_map.mp ha
    exact c.toNat_lt
  rw [order_ordL]
  unfold writ
  rw [b16_nat, b16_nat, ordL_flat hx2 id (fun _ => True) (fun _ _ => by simp [hx2]) (fun a b _ _ h => hx2_before a b h) (fun _ _ _ _ h => h) _ _ (fun _ _ => trivial) (fun _ _ => trivial), List.map_id, List.map_id,
    map_flat _ _ u8 _ (fun c hc => u8_eq c (k1 c hc)), map_flat _ _ u8 _ (fun c hc => u8_eq c (k2 c hc)),
    ordL_flat u8 id (· < 0x110000) (fun a _ => by unfold u8; (repeat' split) <;> simp) (fun a b ha hb h => u8_before a b ha hb h) (fun _ _ _ _ h => h) _ _ k1 k2, List.map_id, List.map_id,
    ordL_flat (escC q) (rk q) (fun _ => True) (fun a _ => escC_ne q a) (fun a b _ _ h => esc_before q a b h) (fun a b _ _ h => rk_inj q a b h) _ _ (fun _ _ => trivial) (fun _ _ => trivial)]
end
end Mine

namespace Mine
section
open PySem PySem.W PyProof.Rows PySem.Calls
set_option maxRecDepth 100000
set_option maxHeartbeats 8000000

section
variable {prog : Program} {w : World} {A : Around} {E : Value → Shared → Prop} {s : Shared} {x y z : Str} {t u v : Tok} {Q : Value → Shared → Prop}
open Builtin Builtin.Str in
theorem replP (N : Nat) (hx : x.length ≤ N) (hN : N ≤ 1000000) (hu : @LT.lt Nat instLTNat 0 u) (hv : @LT.lt Nat instLTNat 0 v) (huv : @Ne Nat u v) (hyz : (y == z) = false) (hz : z.length ≤ 6) (hy : 0 < y.length) (hs : 0 < s.toks)
    (hq : ∀ t' k, 0 < k → (Txt.replace x y z).length ≤ 7 * N → Q (.str (Txt.replace x y z) t') { s with toks := k }) : wpAny (model prog w) A (call (.builtin "str.replace") [.str x t, .str y u, .str z v]) Q E s := by
  have hb : x.length + (x.length + 1) * z.length ≤ 16777216 := by
    have h1 : (x.length + 1) * z.length ≤ (x.length + 1) * 6 := Nat.mul_le_mul_left _ hz
    omega
  have hlen : (Txt.replace x y z).length ≤ 7 * N := by
    have h1 := replace_len x y z hy
    have h2 : x.length * (z.length + 1) ≤ N * 7 := Nat.mul_le_mul hx (by omega)
    omega
  have hl : tooLong (x.length + (occurrences x y 0 x.length (x.length + 1)).length * z.length) = false := by
    have h1 := StrLaws.occ_length_le x y 0 x.length (x.length + 1)
    have h2 : (occurrences x y 0 x.length (x.length + 1)).length * z.length ≤ (x.length + 1) * z.length := Nat.mul_le_mul_right _ h1
    unfold tooLong
    rw [sizeLine_eq]
    exact decide_eq_false (by omega)
  have hu' : ¬ (u = 0) := Nat.ne_of_gt hu
  have hv' : ¬ (v = 0) := Nat.ne_of_gt hv
  refine call_gives F.slot_str_replace (typeIs_str _ _ _) F.entry_str_replace (F.args_str_replace_3 _ _ _)
    (gives_str_replace x y z t u v fun _ => ⟨by simp [hu', hv'], by simpa using huv, hyz, hl⟩) ?_
  have hq' := fun t' k hk => hq t' k hk hlen
  unfold Txt.replace at hq'
  cases hc : ((occurrences x y 0 x.length (x.length + 1)).isEmpty || (y.length == 0 && z.length == 0))
  · rw [hc] at hq'
    simp only [Bool.false_eq_true, if_false] at hq' ⊢
    exact ⟨fits_replaced y hb, hq' _ _ (Nat.succ_pos _)⟩
  · rw [hc] at hq'
    simp only [if_true] at hq' ⊢
    exact hq' t s.toks hs
/-- the counter, forgotten but for its sign -/
theorem gen_toks {α : Type} {M : Model} {h : Heap} {g : Array GenState} {d : Drawn} {k : Nat} {o : OsState} {t : Sem α} {Q : α → Shared → Prop} (hk : 0 < k) (H : ∀ tk, 0 < tk → wpAny M A t Q E ⟨h, g, d, tk, o⟩) : wpAny M A t Q E ⟨h, g, d, k, o⟩ := H k hk
end

end
end Mine

namespace Mine
section
open PySem PySem.W PyProof.Rows PySem.Calls
set_option maxRecDepth 100000
set_option maxHeartbeats 8000000
section
local macro_rules | `(tactic| k_room) => `(tactic| ktr_room)
local macro_rules | `(tactic| walk_at "call builtin:str.replace") => `(tactic| ((with_reducible show wpAny _ _ (call (Value.builtin "str.replace") [Value.str _ _, Value.str _ _, Value.str _ _]) _ _ _); (refine replP _ (by assumption) (by decide) (by omega) (by omega) (by omega) (by decide +kernel) (by decide +kernel) (by decide +kernel) (by (try dsimp only); omega) ?_); intro _ _ _ _))
local macro_rules | `(tactic| walk_at "execs cons") => `(tactic| (k_here; (with_reducible refine gen_toks (k := _ + 1) (by omega) ?_); intro tk _))
local macro_rules | `(tactic| walk_at "execs nil") => `(tactic| (k_here; (with_reducible refine gen_toks (k := _ + 1) (by omega) ?_); intro tk _))
theorem ct_escape (w : World) (mean : ExcName → Option Value) (mg mb : Str → Option Value) (x : Str) (t : Tok) (q : Bool) (hx : x.length ≤ 20) :
    PC 20 w mean mg mb 46 [.str x t, .bool q] (fun _ r _ => ∃ t, r = .str (escT q x) t) := by
  unfold PC
  w_top off
  k_fill
  intro dp un gd cn cs a ccd cl outer A₀ base h₀ L m s Q E B F X T hk hd hu hret
  dsimp only at hret
  k_dflt (refine' call_pure (fun _ r _ => ∃ t, r = .str (escT q x) t) ?k1 ?k2 ?k3 ?k5 ?kA ?kF ?kK ?kR ?k6 ?k7 ?k8 ?k9 ?kB ?kP ?_ ?c2 ?c3 ?c4 ?c5; (case kA => exact rfl); (case kF => exact rfl); (case kK => assumption); (case k1 => k_asm); (case k2 => k_asm); (case k3 => k_asm); (case k5 => k_asm); (case kR => exact hret); (case k6 => k_is); (case k7 => k_is); (case k8 => ktr_room); (case k9 => first | exact BindsTo.of_eq rfl | exact binds_K (by k_in) rfl (by k_is) rfl rfl rfl); (case c5 => decide); (case kB => exact locs rfl); (case kP => exact Nat.zero_lt_succ _); (case c2 => exact rfl); (case c3 => exact rfl); (case c4 => exact rfl); k_whole; intro L' h' tk htk F' N' B' X' T'; clear hret; (try dsimp only); (try k_lift B'); (try k_fold))
  k_steps
  all_goals (show Done _ _ _ _)
  all_goals (rename q = _ => hq; subst hq; exact ⟨_, _, _, _, rfl, by assumption, _, rfl⟩)
end
end
end Mine

namespace Mine
section
open PySem PySem.W PyProof.Rows PySem.Calls
set_option maxRecDepth 100000
set_option maxHeartbeats 8000000

theorem hexL_lt (l : List UInt8) : ∀ y ∈ hexL l, y < 128 := by
  intro y hy
  unfold hexL at hy
  obtain ⟨c, _, hc⟩ := List.mem_flatMap.mp hy
  have h := c.toNat_lt
  simp only [List.mem_cons, List.not_mem_nil, or_false, Builtin.Bytes.hexDigit] at hc
  rcases hc with rfl | rfl <;> split <;> omega
theorem hexL_length (l : List UInt8) : (hexL l).length = 2 * l.length := by
  unfold hexL
  induction l with
  | nil => rfl
  | cons c l ih => simp only [List.flatMap_cons, List.length_append, List.length_cons, List.length_nil, ih]; omega
theorem upper_hex (l : List UInt8) : ((hexL l).map (fun c => c.toUInt8)).map Builtin.Bytes.toUpper = b16 l := by
  have hd : ∀ n, n < 16 → Builtin.Bytes.toUpper (Builtin.Bytes.hexDigit n).toUInt8 = (hxD n).toUInt8 := by decide
  unfold hexL b16
  induction l with
  | nil => rfl
  | cons c l ih =>
    have h := c.toNat_lt
    rw [List.flatMap_cons, List.flatMap_cons, List.map_append, List.map_append, ih]
    simp only [List.map_cons, List.map_nil]
    rw [hd _ (by omega), hd _ (by omega)]
theorem b16_length (l : List UInt8) : (b16 l).length = 2 * l.length := by
  rw [← upper_hex, List.length_map, List.length_map, hexL_length]
section
variable {prog : Program} {w : World} {A : Around} {E : Value → Shared → Prop} {s : Shared} {b : Array UInt8} {l : List UInt8} {t u : Tok} {Q : Value → Shared → Prop}
theorem hex_asc (hsz : l.length ≤ 8000000) (h : Q (.bytes ((hexL l).map (fun c => c.toUInt8)).toArray s.toks) { s with toks := s.toks + 1 }) :
    wpAny (model prog w) A (call (.builtin "str.encode") [.str ⟨(hexL l).toArray⟩ t, .str (Str.ofString "ascii") u]) Q E s :=
  call_encA (by simpa using hexL_lt l) (by show (hexL l).toArray.size ≤ _; rw [List.size_toArray, hexL_length]; omega) h
theorem hex_up (hsz : l.length ≤ 8000000) (h : Q (.bytes (b16 l).toArray s.toks) { s with toks := s.toks + 1 }) :
    wpAny (model prog w) A (call (.builtin "bytes.upper") [.bytes ((hexL l).map (fun c => c.toUInt8)).toArray t]) Q E s := by
  refine call_upper (by rw [List.size_toArray, List.length_map, hexL_length]; omega) ?_
  rw [show (((hexL l).map (fun c => c.toUInt8)).toArray.toList.map Builtin.Bytes.toUpper) = b16 l from upper_hex l]
  exact h
theorem meth_enc {M : Model} {x : Str} {pl : Sem Bool} {Q : Value × List Value → Shared → Prop} (h : Q (.builtin "str.encode", [.str x t]) s) : wpAny M A (getMethod (.str x t) "encode" pl) Q E s := by
  refine getMethod_builtin (T := "str") (typeIs_str _ _ _) F.plainAttrs_str F.slot_str_encode F.type_str_encode ?_ h
  intro a e
  cases e
end
section
local macro_rules | `(tactic| k_room) => `(tactic| ktr_room)
local macro_rules | `(tactic| walk_at "call type:type") => `(tactic| (first | (refine type_bytes ?_) | (refine type_int ?_)))
local macro_rules | `(tactic| walk_at "getMethod bytes") => `(tactic| (first | with_reducible refine meth_hex ?_ | with_reducible refine meth_upper ?_))
local macro_rules | `(tactic| walk_at "getMethod str") => `(tactic| (with_reducible refine meth_enc ?_))
local macro_rules | `(tactic| walk_at "call builtin:bytes.hex") => `(tactic| (refine call_hex (by (simp only [List.size_toArray]; omega)) ?_))
local macro_rules | `(tactic| walk_at "call builtin:str.encode") => `(tactic| (refine hex_asc (by assumption) ?_))
local macro_rules | `(tactic| walk_at "call builtin:bytes.upper") => `(tactic| (refine hex_up (by assumption) ?_))
theorem ct_b16encode (w : World) (mean : ExcName → Option Value) (mg mb : Str → Option Value) (l : List UInt8) (t : Tok) (hx : l.length ≤ 8000000) :
    PC 20 w mean mg mb 116 [.bytes l.toArray t] (fun _ r _ => ∃ t, r = .bytes (b16 l).toArray t) := by
  unfold PC
  w_top off
  k_fill
  intro dp un gd cn cs a ccd cl outer A₀ base h₀ L m s Q E B F X T hk hd hu hret
  dsimp only at hret
  k_dflt (refine' call_pure (fun _ r _ => ∃ t, r = .bytes (b16 l).toArray t) ?k1 ?k2 ?k3 ?k5 ?kA ?kF ?kK ?kR ?k6 ?k7 ?k8 ?k9 ?kB ?kP ?_ ?c2 ?c3 ?c4 ?c5; (case kA => exact rfl); (case kF => exact rfl); (case kK => assumption); (case k1 => k_asm); (case k2 => k_asm); (case k3 => k_asm); (case k5 => k_asm); (case kR => exact hret); (case k6 => k_is); (case k7 => k_is); (case k8 => ktr_room); (case k9 => first | exact BindsTo.of_eq rfl | exact binds_K (by k_in) rfl (by k_is) rfl rfl rfl); (case c5 => decide); (case kB => exact locs rfl); (case kP => exact Nat.zero_lt_succ _); (case c2 => exact rfl); (case c3 => exact rfl); (case c4 => exact rfl); k_whole; intro L' h' tk htk F' N' B' X' T'; clear hret; (try dsimp only); (try k_lift B'); (try k_fold))
  k_steps
  all_goals (exact ⟨_, _, _, _, rfl, by assumption, _, rfl⟩)
end
end
end Mine

namespace Mine
section
open PySem PySem.W PyProof.Rows PySem.Calls
set_option maxRecDepth 100000
set_option maxHeartbeats 8000000

/-- a contract, used: what was known of the frame and of the ledger stands behind the call -/
theorem pc_use {r : Nat} {w : World} {mean : ExcName → Option Value} {mg mb : Str → Option Value} {f : Addr} {vs : List Value} {Post : Heap → Value → Heap → Prop} (C : PC r w mean mg mb f vs Post)
    {dp un : Nat} {gd : Option (List Code)} {cn : Str} {cs : Scope} {a : Addr} {ccd : Value} {cl : List (Str × Addr)} {outer : List Env} {A₀ : Around} {base h₀ : Heap} {L : Addr} {m : Str → Option Value} {news : List (Addr × Obj)} {s : Shared} {Q E : Value → Shared → Prop}
    (B : Below A₀ base outer h₀) (F : Fr h₀ L s.heap m) (X : (hd.heap_39 w.params).In h₀) (N : News h₀ L s.heap news) (T : TopQ mean mg mb h₀) (hk : cs.kind = .function) (hd : dp + r < recursionLimit) (hu : un + 10 * r < cLine)
    (ret : ∀ r h' tk', Fr h₀ L h' m → News h₀ L h' news → s.heap.StaysIn h' → Post s.heap r h' → Q r { s with heap := h', toks := tk' }) :
    wpAny (model Challenge.rw_qh0084_01.row.prog w) (ktrTop dp un gd cn cs L a ccd cl outer) (call (.ref f) vs) Q E s :=
  C _ _ _ _ _ _ _ _ _ _ _ _ _ _ _ _ _ B F X T hk hd hu fun r h' tk' st hp =>
    ret r h' tk' ⟨F.ns.keeps st, fun b o e => st b o (F.keep b o e), F.above⟩ (fun p hp => ⟨st _ _ (N p hp).1, (N p hp).2⟩) st hp
def hv (c : Int) : Int := if 48 ≤ c ∧ c ≤ 57 then c - 48 else if 65 ≤ c ∧ c ≤ 70 then c - 55 else if 97 ≤ c ∧ c ≤ 102 then c - 87 else 16
section
local macro_rules | `(tactic| k_room) => `(tactic| ktr_room)
theorem ct_hexv (w : World) (mean : ExcName → Option Value) (mg mb : Str → Option Value) (c : Int) (t : Tok) :
    PC 5 w mean mg mb 102 [.int c t] (fun _ r _ => ∃ t, r = .int (hv c) t) := by
  unfold PC
  w_top off
  k_fill
  intro dp un gd cn cs a ccd cl outer A₀ base h₀ L m s Q E B F X T hk hd hu hret
  dsimp only at hret
  k_dflt (refine' call_pure (fun _ r _ => ∃ t, r = .int (hv c) t) ?k1 ?k2 ?k3 ?k5 ?kA ?kF ?kK ?kR ?k6 ?k7 ?k8 ?k9 ?kB ?kP ?_ ?c2 ?c3 ?c4 ?c5; (case kA => exact rfl); (case kF => exact rfl); (case kK => assumption); (case k1 => k_asm); (case k2 => k_asm); (case k3 => k_asm); (case k5 => k_asm); (case kR => exact hret); (case k6 => k_is); (case k7 => k_is); (case k8 => ktr_room); (case k9 => first | exact BindsTo.of_eq rfl | exact binds_K (by k_in) rfl (by k_is) rfl rfl rfl); (case c5 => decide); (case kB => exact locs rfl); (case kP => exact Nat.zero_lt_succ _); (case c2 => exact rfl); (case c3 => exact rfl); (case c4 => exact rfl); k_whole; intro L' h' tk htk F' N' B' X' T'; clear hret; (try dsimp only); (try k_lift B'); (try k_fold))
  k_steps
  all_goals (show Done _ _ _ _)
  all_goals (refine done_int (by assumption) ?_; unfold hv; (repeat' split) <;> omega)
end
end
end Mine

namespace Mine
section
open PySem PySem.W PyProof.Rows PySem.Calls
set_option maxRecDepth 100000
set_option maxHeartbeats 8000000

theorem b16_even (l : List UInt8) : ∀ k, k < l.length → (b16 l).getD (2 * k) 0 = (hxD ((l.getD k 0).toNat / 16)).toUInt8 ∧ (b16 l).getD (2 * k + 1) 0 = (hxD ((l.getD k 0).toNat % 16)).toUInt8 := by
  induction l with
  | nil => intro k hk; exact absurd hk (Nat.not_lt_zero _)
  | cons c l ih =>
    intro k hk
    cases k with
    | zero => exact ⟨rfl, rfl⟩
    | succ k =>
      have h := ih k (by simpa using hk)
      have e1 : b16 (c :: l) = (hxD (c.toNat / 16)).toUInt8 :: (hxD (c.toNat % 16)).toUInt8 :: b16 l := rfl
      have e2 : 2 * (k + 1) = 2 * k + 1 + 1 := by omega
      rw [e1, e2]
      simpa using h
theorem hxD_u8 (n : Nat) (h : n < 16) : (hxD n).toUInt8.toNat = hxD n := by
  apply toU8
  unfold hxD
  split <;> omega
theorem hv_hxD (n : Nat) (h : n < 16) : hv (hxD n : Nat) = n := by
  unfold hv hxD
  (repeat' split) <;> omega
theorem ct_hexd (w : World) (mean : ExcName → Option Value) (mg mb : Str → Option Value) (n : Nat) (hn : n < 16) (t : Tok) : PC 5 w mean mg mb 102 [.int (hxD n : Nat) t] (fun _ r _ => ∃ t, r = .int n t) := by
  have h := ct_hexv w mean mg mb (hxD n : Nat) t
  rw [hv_hxD n hn] at h
  exact h
section
variable {prog : Program} {w : World} {A : Around} {E : Value → Shared → Prop} {s : Shared} {value slice : Expr} {l bs : List UInt8} {k : Nat} {t u : Tok} {Q : Value → Shared → Prop}
theorem item_even (hbs : bs = b16 l) (hk : k < l.length) (hl : l.length ≤ 100000) (h : Q (.int (hxD ((l.getD k 0).toNat / 16) : Nat) s.toks) { s with toks := s.toks + 1 })
    (hs : subscripted slice false (.bytes bs.toArray t) (.int (2 * (k : Int)) u) = operate [.bytes bs.toArray t, .int (2 * (k : Int)) u] (getItem (.bytes bs.toArray t) (.int (2 * (k : Int)) u)) := by with_unfolding_all rfl)
    (ht : ∀ r, letTemporaryGo value (.bytes bs.toArray t) r = pure () := by intro _; with_unfolding_all rfl) : wpAny (model prog w) A (subscriptTail value slice (.bytes bs.toArray t) (.int (2 * (k : Int)) u)) Q E s := by
  have hlen : bs.length = 2 * l.length := by rw [hbs, b16_length]
  refine tail_of_ItemOn ⟨"bytes", _, FB.slot_bytes_getitem.lookup, typeIs_bytes _ _ _, ?_⟩ hs ht
  refine getItem_bytes (by omega) (by omega) (by omega) ?_
  have e : ((2 * (k : Int)).toNat) = 2 * k := by omega
  have hc := (l.getD k 0).toNat_lt
  rw [e, hbs, (b16_even l k hk).1, hxD_u8 _ (by omega)]
  exact h
theorem item_odd (hbs : bs = b16 l) (hk : k < l.length) (hl : l.length ≤ 100000) (h : Q (.int (hxD ((l.getD k 0).toNat % 16) : Nat) s.toks) { s with toks := s.toks + 1 })
    (hs : subscripted slice false (.bytes bs.toArray t) (.int (2 * (k : Int) + 1) u) = operate [.bytes bs.toArray t, .int (2 * (k : Int) + 1) u] (getItem (.bytes bs.toArray t) (.int (2 * (k : Int) + 1) u)) := by with_unfolding_all rfl)
    (ht : ∀ r, letTemporaryGo value (.bytes bs.toArray t) r = pure () := by intro _; with_unfolding_all rfl) : wpAny (model prog w) A (subscriptTail value slice (.bytes bs.toArray t) (.int (2 * (k : Int) + 1) u)) Q E s := by
  have hlen : bs.length = 2 * l.length := by rw [hbs, b16_length]
  refine tail_of_ItemOn ⟨"bytes", _, FB.slot_bytes_getitem.lookup, typeIs_bytes _ _ _, ?_⟩ hs ht
  refine getItem_bytes (by omega) (by omega) (by omega) ?_
  have e : ((2 * (k : Int) + 1).toNat) = 2 * k + 1 := by omega
  have hc := (l.getD k 0).toNat_lt
  rw [e, hbs, (b16_even l k hk).2, hxD_u8 _ (by omega)]
  exact h
end
abbrev nats (l : List UInt8) : List Int := l.map fun c => (c.toNat : Int)
/-- a turn of a2b_hex's loop, ended -/
def EndA (h₀ : Heap) (L lo : Addr) (s : Shared) (l : List UInt8) (m₀ : Str → Option Value) (Q : Flow → Shared → Prop) (k : Nat) (f : Flow) (s₂ : Shared) : Prop :=
  match f with
  | .ret v => Q (.ret v) s₂
  | .brk => Q .next s₂
  | _ => ∃ vs n ti h' tk m', s₂ = { s with heap := h', toks := tk } ∧ Fr h₀ L h' m' ∧ News h₀ L h' [(lo, listOf vs.toArray n)] ∧ k < l.length ∧ IntsAre vs (nats (l.take (k + 1))) ∧
      m' (Str.ofString "i") = some (.int (2 * ((k + 1 : Nat) : Int)) ti) ∧ ∀ z, z ≠ Str.ofString "i" → ([Str.ofString "top", Str.ofString "bot"] : List Str).contains z = false → m' z = m₀ z
section
variable {prog : Program} {w : World} {A : Around} {E : Value → Shared → Prop} {Q : Flow → Shared → Prop} {s : Shared} {env : Env} {h₀ : Heap} {L lo : Addr}
theorem a2b_while {test : Expr} {body : List Stmt} {pos : Pos} {m₀ : Str → Option Value} {t₀ : Tok} {l bs : List UInt8} (_hB : bs = b16 l)
    (F : Fr h₀ L s.heap m₀) (N : News h₀ L s.heap [(lo, listOf #[] 0)]) (hi : m₀ (Str.ofString "i") = some (.int 0 t₀))
    (turn : ∀ (k : Nat) (vs : List Value) (n : Nat) (ti : Tok) (u : Str → Option Value) h tk, (l.getD k 0).toNat < 256 → k ≤ l.length → IntsAre vs (nats (l.take k)) →
      Fr h₀ L h (kstB (fun z => if ([Str.ofString "top", Str.ofString "bot"] : List Str).contains z then u z else m₀ z) [(Str.ofString "i", .int (2 * (k : Int)) ti)]) → News h₀ L h [(lo, listOf vs.toArray n)] →
      wpAny (model prog w) A (isTrue test env (eval test env)) (fun b s₂ =>
        if b = true then wpAny (model prog w) A (execs body env) (EndA h₀ L lo s l m₀ Q k) E s₂ else Q .next s₂) E { s with heap := h, toks := tk })
    (hE : PassesOwn (model prog w) A env E) :
    wpAny (model prog w) A (exec (.While test body [] pos) env) Q E s := by
  refine ksw_while (σ := Nat × List Value × Nat × Tok) (fun c => [(lo, listOf c.2.1.toArray c.2.2.1)]) (fun c => [(Str.ofString "i", .int (2 * (c.1 : Int)) c.2.2.2)]) (fun c => IntsAre c.2.1 (nats (l.take c.1)))
    [Str.ofString "top", Str.ofString "bot"] (fun c => c.1 ≤ l.length) (fun c => l.length - c.1) (0, [], 0, t₀) F N .nil ?_ (Nat.zero_le _) ?_ hE
  · intro p hp
    rw [List.mem_singleton.mp hp]
    exact hi
  · rintro ⟨k, vs, n, ti⟩ u h tk hf hp F' N'
    refine wpAny_mono (turn k vs n ti u h tk (l.getD k 0).toNat_lt hp hf F' N') (fun b s₂ p => ?_) fun _ _ x => x
    cases b with
    | false => simpa using p
    | true =>
      simp only [if_true] at p ⊢
      refine wpAny_mono p (fun f s₃ q => ?_) fun _ _ x => x
      have fin : (∃ vs n ti h' tk m', s₃ = { s with heap := h', toks := tk } ∧ Fr h₀ L h' m' ∧ News h₀ L h' [(lo, listOf vs.toArray n)] ∧ k < l.length ∧ IntsAre vs (nats (l.take (k + 1))) ∧
          m' (Str.ofString "i") = some (.int (2 * ((k + 1 : Nat) : Int)) ti) ∧ ∀ z, z ≠ Str.ofString "i" → ([Str.ofString "top", Str.ofString "bot"] : List Str).contains z = false → m' z = m₀ z) →
          KswEnd (σ := Nat × List Value × Nat × Tok) h₀ L s (fun c => [(lo, listOf c.2.1.toArray c.2.2.1)]) (fun c => [(Str.ofString "i", .int (2 * (c.1 : Int)) c.2.2.2)]) (fun c => IntsAre c.2.1 (nats (l.take c.1))) [Str.ofString "top", Str.ofString "bot"] m₀ (fun c => c.1 ≤ l.length) (fun c => l.length - c.1) (k, vs, n, ti) s₃ := by
        rintro ⟨vs', n', ti', h', tk', m', rfl, F1, N1, hk, hI, hm, hr⟩
        exact ksw_end (k + 1, vs', n', ti') F1 N1 (fun p hp => hp) hI (fun p hp => by rw [List.mem_singleton.mp hp]; exact hm) (fun z hz hc => hr z (hz _ (.head _)) hc) hk (by show l.length - (k + 1) < l.length - k; omega)
      cases f with
      | ret v => exact q
      | brk => exact q
      | next => exact fin q
      | cont => exact fin q
theorem ints_snoc {vs : List Value} {ns : List Int} (h : IntsAre vs ns) (n : Int) (t : Tok) : IntsAre (vs ++ [.int n t]) (ns ++ [n]) := by
  induction h with
  | nil => exact .cons n t .nil
  | cons m u _ ih => exact .cons m u ih
theorem endA_intro {l : List UInt8} {k n : Nat} {vs : List Value} {e i : Int} {te ti : Tok} {h' : Heap} {tk : Nat} {m₀ m' : Str → Option Value} (F : Fr h₀ L h' m') (N : News h₀ L h' [(lo, listOf (vs.toArray.push (.int e te)) n)]) (hk : k < l.length)
    (hI : IntsAre vs (nats (l.take k))) (he : e = ((l.getD k 0).toNat : Int)) (hm : m' (Str.ofString "i") = some (.int i ti)) (hi : i = 2 * ((k + 1 : Nat) : Int))
    (hr : ∀ z, z ≠ Str.ofString "i" → ([Str.ofString "top", Str.ofString "bot"] : List Str).contains z = false → m' z = m₀ z) : EndA h₀ L lo s l m₀ Q k .next { s with heap := h', toks := tk } := by
  subst he hi
  refine ⟨vs ++ [.int ((l.getD k 0).toNat : Int) te], n, ti, h', tk, m', rfl, F, ?_, hk, ?_, hm, hr⟩
  · rw [List.push_toArray] at N
    exact N
  · have e : nats (l.take (k + 1)) = nats (l.take k) ++ [((l.getD k 0).toNat : Int)] := by
      have e1 : l.take (k + 1) = l.take k ++ [l.getD k 0] := by
        rw [List.take_add_one, List.getElem?_eq_getElem hk, List.getD_eq_getElem?_getD, List.getElem?_eq_getElem hk]
        rfl
      rw [e1, nats, nats, List.map_append]
      rfl
    rw [e]
    exact ints_snoc hI _ _
theorem bytes_of (l : List UInt8) : byteArr (nats l) = l.toArray := by
  unfold byteArr nats
  rw [List.map_map]
  congr 1
  have : ((fun n : Int => n.toNat.toUInt8) ∘ fun c : UInt8 => (c.toNat : Int)) = id := by
    funext c
    simp
  rw [this, List.map_id]
theorem make_bytes {m : Str → Option Value} {l : List UInt8} {vs : List Value} {n k : Nat} {Q : Value → Shared → Prop} (F : Fr h₀ L s.heap m) (N : News h₀ L s.heap [(lo, listOf vs.toArray n)]) (hh : A.handled = none) (hI : IntsAre vs (nats (l.take k))) (hk : k = l.length) (hz : l.length ≤ 100000)
    (h : ∀ h' t' k, Fr h₀ L h' m → Q (.bytes l.toArray t') { s with heap := h', toks := k }) : wpAny (model prog w) A (call (.type "bytes") [.ref lo]) Q E s := by
  subst hk
  rw [List.take_length] at hI
  refine KBa.make_K F N hh ⟨_, (N _ (.head _)).1, rfl, n, rfl⟩ hI ?_ (by rw [List.length_map]; omega) fun h' t' k F' _ _ => by rw [bytes_of]; exact h h' t' k F'
  intro n hn
  obtain ⟨c, _, rfl⟩ := List.mem_map.mp hn
  have := c.toNat_lt
  omega
end
end
end Mine

namespace Mine
section
open PySem PySem.W PyProof.Rows PySem.Calls
set_option maxRecDepth 100000
set_option maxHeartbeats 8000000

section
local macro_rules | `(tactic| k_room) => `(tactic| ktr_room)
local macro_rules | `(tactic| walk_at "call type:type") => `(tactic| (first | (refine type_bytes ?_) | (refine type_int ?_)))
local macro_rules | `(tactic| walk_at "call ref") => `(tactic| (k_here; (with_reducible show wpAny _ _ (call (Value.ref 102) _) _ _ _); k_dflt (refine' pc_use (ct_hexd _ _ _ _ _ ?kn _) ?k1 ?k2 ?k3 ?k4 ?k5 ?kK ?kd ?ku ?_; (case k1 => k_asm); (case k2 => k_asm); (case k3 => k_asm); (case k4 => k_asm); (case k5 => k_asm); (case kK => first | exact rfl | assumption); (case kd => ktr_room); (case ku => ktr_units); (case kn => omega); (intro r9 h9 tk9 F9 N9 St9 P9); clear St9; (obtain ⟨t9, e9⟩ := P9); subst e9; (try dsimp only); (try k_fold))))
local macro_rules | `(tactic| walk_at "subscriptTail") => `(tactic| (k_here; first | (with_reducible refine item_even (by assumption) (by (simp only [List.size_toArray] at *); omega) (by assumption) ?_) | (with_reducible refine item_odd (by assumption) (by (simp only [List.size_toArray] at *); omega) (by assumption) ?_)))
local macro_rules | `(tactic| walk_at "exec While Compare cons nil") => `(tactic| (k_here; (rename Fr _ _ _ _ => lF'); (rename News _ _ _ _ => lN'); (with_unfolding_all refine a2b_while (by assumption) lF' lN' rfl ?_ (by passes_own)); clear lF' lN'; intro k vs n ti u h tk hC hk hI F' N'; (try dsimp only); (try k_fold)))
theorem ct_a2b (w : World) (mean : ExcName → Option Value) (mg mb : Str → Option Value) (l bs : List UInt8) (t : Tok) (hbs : bs = b16 l) (hlen : bs.length = 2 * l.length) (hl : l.length ≤ 100000) :
    PC 10 w mean mg mb 109 [.bytes bs.toArray t] (fun _ r _ => ∃ t, r = .bytes l.toArray t) := by
  unfold PC
  w_top off
  k_fill
  intro dp un gd cn cs a ccd cl outer A₀ base h₀ L m s Q E B F X T hk hd hu hret
  dsimp only at hret
  k_dflt (refine' call_pure (fun _ r _ => ∃ t, r = .bytes l.toArray t) ?k1 ?k2 ?k3 ?k5 ?kA ?kF ?kK ?kR ?k6 ?k7 ?k8 ?k9 ?kB ?kP ?_ ?c2 ?c3 ?c4 ?c5; (case kA => exact rfl); (case kF => exact rfl); (case kK => assumption); (case k1 => k_asm); (case k2 => k_asm); (case k3 => k_asm); (case k5 => k_asm); (case kR => exact hret); (case k6 => k_is); (case k7 => k_is); (case k8 => ktr_room); (case k9 => first | exact BindsTo.of_eq rfl | exact binds_K (by k_in) rfl (by k_is) rfl rfl rfl); (case c5 => decide); (case kB => exact locs rfl); (case kP => exact Nat.zero_lt_succ _); (case c2 => exact rfl); (case c3 => exact rfl); (case c4 => exact rfl); k_whole; intro L' h' tk htk F' N' B' X' T'; clear hret; (try dsimp only); (try k_lift B'); (try k_fold))
  k_steps
  · rename News _ _ _ _ => nE
    rename IntsAre _ _ => hI
    refine endA_intro (by assumption) nE ?_ hI ?_ rfl ?_ ?_
    · simp only [List.size_toArray] at *; omega
    · have e : (2 : Int) ^ Int.toNat 4 = 16 := by decide
      rw [e]; omega
    · omega
    · intro z h1 h2
      have h3 := h2
      simp only [List.contains_cons, List.contains_nil, Bool.or_false, Bool.or_eq_false_iff, beq_eq_false_iff_ne, ne_eq] at h3
      simp [kstB, h1, h2, h3]
  · rename News _ _ _ _ => nE
    rename IntsAre _ _ => hI
    refine make_bytes (by assumption) nE rfl hI (by simp only [List.size_toArray] at *; omega) hl ?_
    intro h9 t9 k9 F9
    (show Done _ _ _ _)
    exact done_bytes F9 rfl
end
end
end Mine

namespace Mine
section
open PySem PySem.W PyProof.Rows PySem.Calls
set_option maxRecDepth 100000
set_option maxHeartbeats 8000000

theorem b16_hex (l : List UInt8) : ∀ c ∈ (b16 l).toArray.toList, isHexU c.toNat = true := by
  intro c hc
  have hc' : c ∈ b16 l := hc
  unfold b16 at hc'
  obtain ⟨d, _, hd⟩ := List.mem_flatMap.mp hc'
  have h := d.toNat_lt
  have key : ∀ n, n < 16 → isHexU (hxD n).toUInt8.toNat = true := by decide
  simp only [List.mem_cons, List.not_mem_nil, or_false] at hd
  rcases hd with rfl | rfl
  · exact key _ (by omega)
  · exact key _ (by omega)
section
local macro_rules | `(tactic| k_room) => `(tactic| ktr_room)
local macro_rules | `(tactic| walk_at "call ref") => `(tactic| (k_here; (with_reducible show wpAny _ _ (call (Value.ref 109) _) _ _ _); k_dflt (refine' pc_use (ct_a2b _ _ _ _ _ _ _ ?kn1 ?kn2 ?kn3) ?k1 ?k2 ?k3 ?k4 ?k5 ?kK ?kd ?ku ?_; (case k1 => k_asm); (case k2 => k_asm); (case k3 => k_asm); (case k4 => k_asm); (case k5 => k_asm); (case kK => first | exact rfl | assumption); (case kd => ktr_room); (case ku => ktr_units); (case kn1 => assumption); (case kn2 => assumption); (case kn3 => assumption); (intro r9 h9 tk9 F9 N9 St9 P9); clear St9; (obtain ⟨t9, e9⟩ := P9); subst e9; (try dsimp only); (try k_fold))))
local macro_rules | `(tactic| walk_at "getMethod ref") => `(tactic| (k_here; (with_reducible show wpAny _ _ (getMethod (Value.ref 51) _ _) _ _ _); k_dflt (refine' meth_search (P := 51) (U := 50) (p := 302) (q := 329) ?k1 ?_; (case k1 => exact kto_K (by k_in) (by k_is)))))
local macro_rules | `(tactic| walk_at "call builtin:re.Pattern.search") => `(tactic| (k_here; k_dflt (refine' call_search (P := 51) (U := 50) (p := 302) (q := 329) ?k1 ?k2 ?k3 ?k4 ?_; (case k1 => exact kto_K (by k_in) (by k_is)); (case k2 => exact kto_K (by k_in) (by k_is)); (case k3 => assumption); (case k4 => ((simp only [List.size_toArray]); omega)))))
theorem ct_b16decode (w : World) (mean : ExcName → Option Value) (mg mb : Str → Option Value) (l bs : List UInt8) (t : Tok) (hbs : bs = b16 l) (hlen : bs.length = 2 * l.length) (hl : l.length ≤ 100000) (hX : ∀ c ∈ bs.toArray.toList, isHexU c.toNat = true) :
    PC 20 w mean mg mb 124 [.bytes bs.toArray t] (fun _ r _ => ∃ t, r = .bytes l.toArray t) := by
  unfold PC
  w_top off
  k_fill
  intro dp un gd cn cs a ccd cl outer A₀ base h₀ L m s Q E B F X T hk hd hu hret
  dsimp only at hret
  k_dflt (refine' call_pure (fun _ r _ => ∃ t, r = .bytes l.toArray t) ?k1 ?k2 ?k3 ?k5 ?kA ?kF ?kK ?kR ?k6 ?k7 ?k8 ?k9 ?kB ?kP ?_ ?c2 ?c3 ?c4 ?c5; (case kA => exact rfl); (case kF => exact rfl); (case kK => assumption); (case k1 => k_asm); (case k2 => k_asm); (case k3 => k_asm); (case k5 => k_asm); (case kR => exact hret); (case k6 => k_is); (case k7 => k_is); (case k8 => ktr_room); (case k9 => first | exact BindsTo.of_eq rfl | exact binds_K (by k_in) rfl (by k_is) rfl rfl rfl); (case c5 => decide); (case kB => exact locs rfl); (case kP => exact Nat.zero_lt_succ _); (case c2 => exact rfl); (case c3 => exact rfl); (case c4 => exact rfl); k_whole; intro L' h' tk htk F' N' B' X' T'; clear hret; (try dsimp only); (try k_lift B'); (try k_fold))
  k_steps
  all_goals (show Done _ _ _ _)
  exact done_bytes (by assumption) rfl
end
end
end Mine

namespace Mine
section
open PySem PySem.W PyProof.Rows PySem.Calls
set_option maxRecDepth 100000
set_option maxHeartbeats 8000000

section
variable {prog : Program} {w : World} {A : Around} {E : Value → Shared → Prop} {s : Shared} {x y z : Str} {t u v : Tok} {Q : Value → Shared → Prop}
theorem replQ (N : Nat) (hx : x.length ≤ N) (hN : N ≤ 1000000) (hu : @LT.lt Nat instLTNat 0 u) (hv : @LT.lt Nat instLTNat 0 v) (huv : @Ne Nat u v) (hyz : (y == z) = false) (hz : z.length ≤ 1) (hy : 0 < y.length)
    (hq : ∀ t' k, (Txt.replace x y z).length ≤ 2 * N → Q (.str (Txt.replace x y z) t') { s with toks := k }) : wpAny (model prog w) A (call (.builtin "str.replace") [.str x t, .str y u, .str z v]) Q E s := by
  have hlen : (Txt.replace x y z).length ≤ 2 * N := by
    have h1 := replace_len x y z hy
    have h2 : x.length * (z.length + 1) ≤ N * 2 := Nat.mul_le_mul hx (by omega)
    omega
  refine SC.replace (Nat.ne_of_gt hu) (Nat.ne_of_gt hv) huv hyz ?_ fun t' k => hq t' k hlen
  have h1 : (x.length + 1) * z.length ≤ (x.length + 1) * 1 := Nat.mul_le_mul_left _ hz
  omega
end
section
local macro_rules | `(tactic| k_room) => `(tactic| ktr_room)
local macro_rules | `(tactic| walk_at "call builtin:str.replace") => `(tactic| ((with_reducible show wpAny _ _ (call (Value.builtin "str.replace") [Value.str _ _, Value.str _ _, Value.str _ _]) _ _ _); (refine replQ _ (by assumption) (by decide) (by omega) (by omega) (by omega) (by decide +kernel) (by decide +kernel) (by decide +kernel) ?_); intro _ _ _))
local macro_rules | `(tactic| walk_at "execs cons") => `(tactic| (k_here; (with_reducible refine gen_toks (k := _ + 1) (by omega) ?_); intro tk _))
theorem ct_back (w : World) (mean : ExcName → Option Value) (mg mb : Str → Option Value) (x : Str) (t : Tok) (hx : x.length ≤ 200) :
    PC 20 w mean mg mb 145 [.str x t] (fun _ r _ => ∃ t, r = .str (backT x) t) := by
  unfold PC
  w_top off
  k_fill
  intro dp un gd cn cs a ccd cl outer A₀ base h₀ L m s Q E B F X T hk hd hu hret
  dsimp only at hret
  k_dflt (refine' call_pure (fun _ r _ => ∃ t, r = .str (backT x) t) ?k1 ?k2 ?k3 ?k5 ?kA ?kF ?kK ?kR ?k6 ?k7 ?k8 ?k9 ?kB ?kP ?_ ?c2 ?c3 ?c4 ?c5; (case kA => exact rfl); (case kF => exact rfl); (case kK => assumption); (case k1 => k_asm); (case k2 => k_asm); (case k3 => k_asm); (case k5 => k_asm); (case kR => exact hret); (case k6 => k_is); (case k7 => k_is); (case k8 => ktr_room); (case k9 => first | exact BindsTo.of_eq rfl | exact binds_K (by k_in) rfl (by k_is) rfl rfl rfl); (case c5 => decide); (case kB => exact locs rfl); (case kP => exact Nat.zero_lt_succ _); (case c2 => exact rfl); (case c3 => exact rfl); (case c4 => exact rfl); k_whole; intro L' h' tk htk F' N' B' X' T'; clear hret; (try dsimp only); (try k_lift B'); (try k_fold))
  k_steps
  all_goals (show Done _ _ _ _)
  exact done_str (by assumption) rfl
end
end
end Mine

namespace Mine
section
open PySem PySem.W PyProof.Rows PySem.Calls
set_option maxRecDepth 100000
set_option maxHeartbeats 8000000

theorem in3_eq (c : Nat) : (!(Builtin.Str.occurrences (Str.ofString "&><") ⟨#[c]⟩ 0 (Str.ofString "&><").length 1).isEmpty) = decide (c = 38 ∨ c = 62 ∨ c = 60) := by
  rw [StrLaws.found_one]
  have e : (Str.ofString "&><").cps.toList = [38, 62, 60] := by decide +kernel
  rw [e]
  simp only [List.mem_cons, List.not_mem_nil, or_false]
section
variable {prog : Program} {w : World} {A : Around} {E : Value → Shared → Prop} {s : Shared} {c : Nat} {t u : Tok} {Q : Value → Shared → Prop}
theorem sign_in (h : Q (.bool (decide (c = 38 ∨ c = 62 ∨ c = 60))) s) : wpAny (model prog w) A (compareOp .In (.str ⟨#[c]⟩ u) (.str (Str.ofString "&><") t)) Q E s := by
  refine PyProof.Rows.in_str ?_
  rw [in3_eq]
  exact h
def ix3 (c : Nat) : Int := if c = 38 then 0 else if c = 62 then 1 else 2
theorem sign_index (hc : c = 38 ∨ c = 62 ∨ c = 60) (h : Q (.int (ix3 c) s.toks) { s with toks := s.toks + 1 }) : wpAny (model prog w) A (call (.builtin "str.index") [.str (Str.ofString "&><") t, .str ⟨#[c]⟩ u]) Q E s := by
  have key : ∀ i rest, Builtin.Str.occurrences (Str.ofString "&><") ⟨#[c]⟩ 0 (Str.ofString "&><").length 1 = i :: rest → ((i : Nat) : Int) = ix3 c → _ := fun i rest e1 e2 =>
    call_gives (Q := Q) (E := E) (A := A) (prog := prog) (w := w) (s := s) F.slot_str_index (typeIs_str _ _ _) F.entry_str_index (F.args_str_index_2 _ _) (gives_str_index (Str.ofString "&><") ⟨#[c]⟩ t u i rest e1) (by rw [e2]; exact h)
  rcases hc with rfl | rfl | rfl
  · exact key 0 [] (by decide +kernel) rfl
  · exact key 1 [] (by decide +kernel) rfl
  · exact key 2 [] (by decide +kernel) rfl
end
abbrev rks (q : Bool) (l : List Nat) : List Int := l.map fun c => (rk q c : Int)
abbrev rksI (q : Bool) (l : List Int) : List Int := l.map fun c => (rk q c.toNat : Int)
/-- a mark: this letter is meant -/
structure Meant {α : Type} (x : α) : Prop where
  it : True
/-- a turn of _law_ranks' loop, ended -/
def EndR (h₀ : Heap) (L lo : Addr) (own : List (Addr × Obj)) (s : Shared) (q : Bool) (c : Nat) (vs : List Value) (m₀ : Str → Option Value) (Q : Flow → Shared → Prop) (f : Flow) (s₂ : Shared) : Prop :=
  match f with
  | .ret v => Q (.ret v) s₂
  | .brk => Q .next s₂
  | _ => ∃ t n h' tk m', s₂ = { s with heap := h', toks := tk } ∧ Fr h₀ L h' m' ∧ News h₀ L h' ((lo, listOf (vs.toArray.push (.int (rk q c) t)) n) :: own) ∧
      ∀ z, z ≠ Str.ofString "sign" → z ≠ Str.ofString "rank" → m' z = m₀ z
section
variable {prog : Program} {w : World} {A : Around} {E : Value → Shared → Prop} {Q : Flow → Shared → Prop} {s : Shared} {env : Env} {h₀ : Heap} {lo : Addr}
theorem ranks_loop {body : List Stmt} {m₀ : Str → Option Value} {xt : Str} {tx : Tok} {q : Bool} (_hq : Meant q) (hh : A.handled = none)
    (F : Fr h₀ env.locals s.heap m₀) (N : News h₀ env.locals s.heap [(lo, listOf #[] 0)])
    (turn : ∀ (vs : List Value) (n c : Nat) (t : Tok) (u : Str → Option Value) h tk own, c ∈ xt.cps.toList → vs.length < xt.length → OwnOff own [lo] →
      Fr h₀ env.locals h (fun y => if y = Str.ofString "sign" then some (.str ⟨#[c]⟩ t) else if y = Str.ofString "rank" then u y else m₀ y) → News h₀ env.locals h ((lo, listOf vs.toArray n) :: own) →
      wpAny (model prog w) A (execs body env) (EndR h₀ env.locals lo own { s with heap := h, toks := tk } q c vs m₀ Q) E { s with heap := h, toks := tk })
    (done : ∀ (vs : List Value) (n : Nat) (u : Str → Option Value) h tk, IntsAre vs (rks q xt.cps.toList) → Fr h₀ env.locals h (fun y => if y = Str.ofString "sign" then u y else if y = Str.ofString "rank" then u y else m₀ y) → News h₀ env.locals h [(lo, listOf vs.toArray n)] → Q .next { s with heap := h, toks := tk }) :
    wpAny (model prog w) A (pyIter (.str xt tx)) (fun it s₂ => LoopAtV prog w A h₀ env (Str.ofString "sign") body Q E it s₂) E s := by
  have eqv : ∀ u : Str → Option Value, (kstB (fun z => if ([Str.ofString "rank"] : List Str).contains z then u z else m₀ z) []) = fun y => if y = Str.ofString "rank" then u y else m₀ y := by
    intro u
    funext y
    show (if ([Str.ofString "rank"] : List Str).contains y then u y else m₀ y) = _
    simp only [List.contains_cons, List.contains_nil, Bool.or_false, beq_iff_eq]
  have cod : ∀ pre post : List Int, ∀ n : Nat, KStt.codes xt = pre ++ (n : Int) :: post → n ∈ xt.cps.toList ∧ pre.length < xt.length := by
    intro pre post n e
    have hm : (n : Int) ∈ KStt.codes xt := by rw [e]; simp
    constructor
    · unfold KStt.codes at hm
      obtain ⟨a, ha, e1⟩ := List.mem_map.mp hm
      have : a = n := Int.ofNat.inj e1
      exact this ▸ ha
    · have := congrArg List.length e
      rw [KStt.codes_length] at this
      simp at this
      omega
  refine KStt.kst_text (σ := List Value × Nat) (fun c => [(lo, listOf c.1.toArray c.2)]) (fun _ => []) (fun _ => True) [Str.ofString "rank"] (fun pre c => IntsAre c.1 (rksI q pre)) ([], 0) hh F N trivial (fun _ hp => nomatch hp) .nil ?_ ?_
  · rintro ⟨vs, n⟩ pre post c t u h tk own e hoff _ hI F' N'
    obtain ⟨h1, h2⟩ := cod pre post c e
    have hlen : vs.length = pre.length := by rw [hI.length, List.length_map]
    simp only [eqv] at F'
    refine wpAny_mono (turn vs n c t u h tk own h1 (by omega) hoff F' N') (fun f s₂ p => ?_) fun _ _ x => x
    have fin : (∃ t n h' tk' m', s₂ = { { s with heap := h, toks := tk } with heap := h', toks := tk' } ∧ Fr h₀ env.locals h' m' ∧ News h₀ env.locals h' ((lo, listOf (vs.toArray.push (.int (rk q c) t)) n) :: own) ∧
        ∀ z, z ≠ Str.ofString "sign" → z ≠ Str.ofString "rank" → m' z = m₀ z) →
        InvEndN h₀ env.locals (KstS (σ := List Value × Nat) (fun c => [(lo, listOf c.1.toArray c.2)]) (fun _ => []) (fun _ => True) (Str.ofString "sign") [Str.ofString "rank"] m₀ (fun pre c => IntsAre c.1 (rksI q pre)) (pre ++ [(c : Int)])) own [lo] { s with heap := h, toks := tk } s₂ := by
      rintro ⟨t', n', h', tk', m', rfl, F1, N1, hr⟩
      refine kst_end (vs ++ [.int (rk q c) t'], n') F1 N1 ?_ (fun p hp => .tail _ hp) rfl trivial (fun _ hp => nomatch hp) ?_ ?_
      · intro p hp
        rw [List.mem_singleton.mp hp, ← List.push_toArray]
        exact .head _
      · intro z h1 _ h3
        refine hr z h1 ?_
        simpa using h3
      · show IntsAre (vs ++ [.int (rk q c) t']) (rksI q (pre ++ [(c : Int)]))
        rw [rksI, List.map_append]
        exact ints_snoc hI _ _
    cases f with
    | ret v => exact p
    | brk => exact p
    | next => exact fin p
    | cont => exact fin p
  · rintro ⟨vs, n⟩ u h tk _ hI F' N'
    simp only [eqv] at F'
    refine done vs n u h tk ?_ F' N'
    have e : rksI q (KStt.codes xt) = rks q xt.cps.toList := by
      unfold KStt.codes rksI rks
      rw [List.map_map]
      rfl
    rw [← e]
    exact hI
theorem endR_intro {L : Addr} {own : List (Addr × Obj)} {q : Bool} {c n : Nat} {vs : List Value} {e : Int} {te : Tok} {h' : Heap} {tk : Nat} {m₀ m' : Str → Option Value} (F : Fr h₀ L h' m') (N : News h₀ L h' ((lo, listOf (vs.toArray.push (.int e te)) n) :: own)) (he : e = (rk q c : Int))
    (hr : ∀ z, z ≠ Str.ofString "sign" → z ≠ Str.ofString "rank" → m' z = m₀ z) : EndR h₀ L lo own s q c vs m₀ Q .next { s with heap := h', toks := tk } := by
  subst he
  exact ⟨te, n, h', tk, m', rfl, F, N, hr⟩
end
theorem eq39 (c : Nat) : ((⟨#[c]⟩ : Str) == Str.ofString "'") = decide (c = 39) := by
  have e : Str.ofString "'" = ⟨#[39]⟩ := by decide +kernel
  rw [e, Bool.eq_iff_iff, beq_iff_eq, decide_eq_true_eq]
  constructor
  · intro h
    have := congrArg (fun x : Str => x.cps.getD 0 0) h
    simpa using this
  · rintro rfl; rfl
theorem eq34 (c : Nat) : ((⟨#[c]⟩ : Str) == Str.ofString "\"") = decide (c = 34) := by
  have e : Str.ofString "\"" = ⟨#[34]⟩ := by decide +kernel
  rw [e, Bool.eq_iff_iff, beq_iff_eq, decide_eq_true_eq]
  constructor
  · intro h
    have := congrArg (fun x : Str => x.cps.getD 0 0) h
    simpa using this
  · rintro rfl; rfl
theorem rk_in (q : Bool) (c : Nat) (h : c = 38 ∨ c = 62 ∨ c = 60) : (191 + ix3 c : Int) = rk q c := by
  rcases h with rfl | rfl | rfl <;> rfl
theorem rk_39 (q : Bool) (c : Nat) (hq : q = true) (e : ((⟨#[c]⟩ : Str) == Str.ofString "'") = true) : (190 : Int) = rk q c := by
  rw [eq39, decide_eq_true_eq] at e
  subst hq e
  rfl
theorem rk_34 (q : Bool) (c : Nat) (hq : q = true) (e : ((⟨#[c]⟩ : Str) == Str.ofString "\"") = true) : (194 : Int) = rk q c := by
  rw [eq34, decide_eq_true_eq] at e
  subst hq e
  rfl
theorem rk_oT (q : Bool) (c : Nat) (h : ¬ (c = 38 ∨ c = 62 ∨ c = 60)) (e1 : ((⟨#[c]⟩ : Str) == Str.ofString "'") = false) (e2 : ((⟨#[c]⟩ : Str) == Str.ofString "\"") = false) : (5 * (c : Int)) = rk q c := by
  rw [eq39, decide_eq_false_iff_not] at e1
  rw [eq34, decide_eq_false_iff_not] at e2
  unfold rk
  rw [if_neg (fun e => h (.inl e)), if_neg (fun e => h (.inr (.inl e))), if_neg (fun e => h (.inr (.inr e))), if_neg (by simp [e1]), if_neg (by simp [e2])]
  omega
theorem rk_oF (q : Bool) (c : Nat) (h : ¬ (c = 38 ∨ c = 62 ∨ c = 60)) (hq : q = false) : (5 * (c : Int)) = rk q c := by
  subst hq
  unfold rk
  rw [if_neg (fun e => h (.inl e)), if_neg (fun e => h (.inr (.inl e))), if_neg (fun e => h (.inr (.inr e))), if_neg (by simp), if_neg (by simp)]
  omega
end
end Mine

namespace Mine
section
open PySem PySem.W PyProof.Rows PySem.Calls
set_option maxRecDepth 100000
set_option maxHeartbeats 8000000

section
local macro_rules | `(tactic| k_room) => `(tactic| ktr_room)
local macro_rules | `(tactic| walk_at "exec For Name Name cons nil") => `(tactic| (k_here; (rename Fr _ _ _ _ => lF'); (with_unfolding_all refine' For_invVF lF' ?k1 ?k2 ?_; (case k1 => exact rfl); (case k2 => exact rfl); k_whole)))
local macro_rules | `(tactic| walk_at "pyIter str") => `(tactic| (k_here; (rename Fr _ _ _ _ => lF'); (rename News _ _ _ _ => lN'); (with_unfolding_all refine ranks_loop (by assumption) rfl lF' lN' ?_ ?_); clear lF' lN'; (all_goals (try k_fold)); (rotate_left; (intro vs n u h tk hI F' N'; (try dsimp only); (try k_fold)); rotate_right; (intro vs n c t u h tk own hc hv hoff F' N'; (try dsimp only); (try k_fold)))))
local macro_rules | `(tactic| walk_at "compareOp In str str") => `(tactic| (refine sign_in ?_))
local macro_rules | `(tactic| walk_at "call builtin:str.index") => `(tactic| (refine sign_index (by assumption) ?_))
theorem ct_ranks (w : World) (mean : ExcName → Option Value) (mg mb : Str → Option Value) (x : Str) (t : Tok) (q : Bool) (hx : x.length ≤ 20) (hc : ∀ c ∈ x.cps.toList, c < 1114112) (hq : Meant q) :
    PC 20 w mean mg mb 138 [.str x t, .bool q] (fun h r h' => ∃ a vs n, r = .ref a ∧ h.get? a = none ∧ h'.get? a = some (listOf vs.toArray n) ∧ IntsAre vs (rks q x.cps.toList)) := by
  unfold PC
  w_top off
  k_fill
  intro dp un gd cn cs a ccd cl outer A₀ base h₀ L m s Q E B F X T hk hd hu hret
  dsimp only at hret
  k_dflt (refine' call_pure (fun h r h' => ∃ a vs n, r = .ref a ∧ h.get? a = none ∧ h'.get? a = some (listOf vs.toArray n) ∧ IntsAre vs (rks q x.cps.toList)) ?k1 ?k2 ?k3 ?k5 ?kA ?kF ?kK ?kR ?k6 ?k7 ?k8 ?k9 ?kB ?kP ?_ ?c2 ?c3 ?c4 ?c5; (case kA => exact rfl); (case kF => exact rfl); (case kK => assumption); (case k1 => k_asm); (case k2 => k_asm); (case k3 => k_asm); (case k5 => k_asm); (case kR => exact hret); (case k6 => k_is); (case k7 => k_is); (case k8 => ktr_room); (case k9 => first | exact BindsTo.of_eq rfl | exact binds_K (by k_in) rfl (by k_is) rfl rfl rfl); (case c5 => decide); (case kB => exact locs rfl); (case kP => exact Nat.zero_lt_succ _); (case c2 => exact rfl); (case c3 => exact rfl); (case c4 => exact rfl); k_whole; intro L' h' tk htk F' N' B' X' T'; clear hret; (try dsimp only); (try k_lift B'); (try k_fold))
  k_steps
  · refine endR_intro (by assumption) (by assumption) (rk_in q _ (by assumption)) ?_; intro z h1 h2; simp [h1, h2]
  · refine endR_intro (by assumption) (by assumption) (rk_39 q _ (by assumption) (by assumption)) ?_; intro z h1 h2; simp [h1, h2]
  · refine endR_intro (by assumption) (by assumption) (rk_34 q _ (by assumption) (by assumption)) ?_; intro z h1 h2; simp [h1, h2]
  · refine endR_intro (by assumption) (by assumption) (rk_oT q _ (by assumption) (by assumption) (by assumption)) ?_; intro z h1 h2; simp [h1, h2]
  · refine endR_intro (by assumption) (by assumption) (rk_oF q _ (by assumption) (by assumption)) ?_; intro z h1 h2; simp [h1, h2]
  · show Done _ _ _ _
    rename News _ _ _ _ => nE
    exact ⟨_, _, _, _, rfl, by assumption, _, _, _, rfl, (nE _ (.head _)).2.2, (nE _ (.head _)).1, by assumption⟩
end
end
end Mine

namespace Mine
section
open PySem PySem.W PyProof.Rows PySem.Calls
set_option maxRecDepth 100000
set_option maxHeartbeats 8000000

def GoodT (k : Nat) (v : Value) : Prop := ∃ x t, v = .str x t ∧ x.length ≤ k ∧ ∀ c ∈ x.cps.toList, OkCp c
/-- a turn of _law_texts' loop, ended -/
def EndT (h₀ : Heap) (L lo : Addr) (own : List (Addr × Obj)) (s : Shared) (k : Nat) (vs : List Value) (m₀ : Str → Option Value) (stored : List Str) (Q : Flow → Shared → Prop) (f : Flow) (s₂ : Shared) : Prop :=
  match f with
  | .ret v => Q (.ret v) s₂
  | .brk => Q .next s₂
  | _ => ∃ v n h' tk m', s₂ = { s with heap := h', toks := tk } ∧ Fr h₀ L h' m' ∧ News h₀ L h' ((lo, listOf (vs.toArray.push v) n) :: own) ∧ GoodT (k + 2) v ∧
      ∀ z, z ≠ Str.ofString "place" → stored.contains z = false → m' z = m₀ z
section
variable {prog : Program} {w : World} {A : Around} {E : Value → Shared → Prop} {Q : Flow → Shared → Prop} {s : Shared} {env : Env} {h₀ : Heap} {lo : Addr}
theorem texts_loop {body : List Stmt} {m₀ : Str → Option Value} {r : Addr} {b₀ : Int} {t₀ u₀ v₀ : Tok} {nm : Nat} {vs₀ : List Value} {n₀ : Nat} (hh : A.handled = none) (hr : IsRange s.heap r 0 b₀ 1 t₀ u₀ v₀) (hb : b₀ = (nm : Int)) (hsm : nm ≤ 10)
    (F : Fr h₀ env.locals s.heap m₀) (stored : List Str) (N : News h₀ env.locals s.heap [(lo, listOf vs₀.toArray n₀)]) (hl0 : vs₀.length = 7) (hg0 : ∀ v ∈ vs₀, GoodT 1 v)
    (turn : ∀ (vs : List Value) (n k : Nat) (t : Tok) (u : Str → Option Value) h tk own, k < nm → vs.length = 7 + k → (∀ v ∈ vs, GoodT (k + 1) v) → OwnOff own [lo] →
      Fr h₀ env.locals h (fun y => if y = Str.ofString "place" then some (.int (k : Int) t) else if stored.contains y then u y else m₀ y) → News h₀ env.locals h ((lo, listOf vs.toArray n) :: own) →
      wpAny (model prog w) A (execs body env) (EndT h₀ env.locals lo own { s with heap := h, toks := tk } k vs m₀ stored Q) E { s with heap := h, toks := tk })
    (done : ∀ (vs : List Value) (n : Nat) (u : Str → Option Value) h tk, vs.length = 7 + nm → (∀ v ∈ vs, GoodT (nm + 1) v) → Fr h₀ env.locals h (fun y => if y = Str.ofString "place" then u y else if stored.contains y then u y else m₀ y) → News h₀ env.locals h [(lo, listOf vs.toArray n)] → Q .next { s with heap := h, toks := tk }) :
    wpAny (model prog w) A (pyIter (.ref r)) (fun it s₂ => LoopAtV prog w A h₀ env (Str.ofString "place") body Q E it s₂) E s := by
  subst hb
  refine kst_range (σ := List Value × Nat) (n := nm) (fun c => [(lo, listOf c.1.toArray c.2)]) (fun _ => []) (fun _ => True) stored (fun pre c => c.1.length = 7 + pre.length ∧ ∀ v ∈ c.1, GoodT (pre.length + 1) v) (vs₀, n₀) hh hr ?_ ?_ F N trivial (fun _ hp => nomatch hp) ⟨hl0, hg0⟩ ?_ ?_
  · exact small_one (by omega) (by omega) (by omega) (by omega)
  · exact rangeSize_nat _ _
  · rintro ⟨vs, n⟩ pre k t u h tk own hk hlt hoff _ ⟨h1, h2⟩ F' N'
    dsimp only at h1 h2
    have e : k = ((pre.length : Nat) : Int) := by omega
    subst e
    refine wpAny_mono (turn vs n pre.length t u h tk own hlt h1 h2 hoff F' N') (fun f s₂ p => ?_) fun _ _ x => x
    have fin : (∃ v n h' tk' m', s₂ = { { s with heap := h, toks := tk } with heap := h', toks := tk' } ∧ Fr h₀ env.locals h' m' ∧ News h₀ env.locals h' ((lo, listOf (vs.toArray.push v) n) :: own) ∧ GoodT (pre.length + 2) v ∧
        ∀ z, z ≠ Str.ofString "place" → stored.contains z = false → m' z = m₀ z) →
        InvEndN h₀ env.locals (KstS (σ := List Value × Nat) (fun c => [(lo, listOf c.1.toArray c.2)]) (fun _ => []) (fun _ => True) (Str.ofString "place") stored m₀ (fun pre c => c.1.length = 7 + pre.length ∧ ∀ v ∈ c.1, GoodT (pre.length + 1) v) (pre ++ [((pre.length : Nat) : Int)])) own [lo] { s with heap := h, toks := tk } s₂ := by
      rintro ⟨v, n', h', tk', m', rfl, F1, N1, hg, hr⟩
      refine kst_end (vs ++ [v], n') F1 N1 ?_ (fun p hp => .tail _ hp) rfl trivial (fun _ hp => nomatch hp) ?_ ⟨?_, ?_⟩
      · intro p hp
        rw [List.mem_singleton.mp hp, ← List.push_toArray]
        exact .head _
      · intro z h1 _ h3
        exact hr z h1 h3
      · simp only [List.length_append, List.length_cons, List.length_nil]; omega
      · intro y hy
        simp only [List.length_append, List.length_cons, List.length_nil]
        rcases List.mem_append.mp hy with hy | hy
        · obtain ⟨x, t9, e1, e2, e3⟩ := h2 y hy
          exact ⟨x, t9, e1, by omega, e3⟩
        · rw [List.mem_singleton.mp hy]
          exact hg
    cases f with
    | ret v => exact p
    | brk => exact p
    | next => exact fin p
    | cont => exact fin p
  · rintro ⟨vs, n⟩ u h tk _ ⟨h1, h2⟩ F' N'
    rw [rangeKs_length] at h1 h2
    exact done vs n u h tk h1 h2 F' N'
theorem texts_loop' {body : List Stmt} {m₀ : Str → Option Value} {r : Addr} {t₀ u₀ v₀ : Tok} {len : Nat} {vs₀ : List Value} {n₀ : Nat} (hh : A.handled = none) (hr : IsRange s.heap r 0 (if 10 < (len : Int) then 10 else (len : Int)) 1 t₀ u₀ v₀)
    (F : Fr h₀ env.locals s.heap m₀) (stored : List Str) (N : News h₀ env.locals s.heap [(lo, listOf vs₀.toArray n₀)]) (hl0 : vs₀.length = 7) (hg0 : ∀ v ∈ vs₀, GoodT 1 v)
    (turn : ∀ (vs : List Value) (n k : Nat) (t : Tok) (u : Str → Option Value) h tk own, k < len → k < 10 → vs.length = 7 + k → (∀ v ∈ vs, GoodT (k + 1) v) → OwnOff own [lo] →
      Fr h₀ env.locals h (fun y => if y = Str.ofString "place" then some (.int (k : Int) t) else if stored.contains y then u y else m₀ y) → News h₀ env.locals h ((lo, listOf vs.toArray n) :: own) →
      wpAny (model prog w) A (execs body env) (EndT h₀ env.locals lo own { s with heap := h, toks := tk } k vs m₀ stored Q) E { s with heap := h, toks := tk })
    (done : ∀ (vs : List Value) (n : Nat) (u : Str → Option Value) h tk, vs.length ≤ 17 → (∀ v ∈ vs, GoodT 11 v) → Fr h₀ env.locals h (fun y => if y = Str.ofString "place" then u y else if stored.contains y then u y else m₀ y) → News h₀ env.locals h [(lo, listOf vs.toArray n)] → Q .next { s with heap := h, toks := tk }) :
    wpAny (model prog w) A (pyIter (.ref r)) (fun it s₂ => LoopAtV prog w A h₀ env (Str.ofString "place") body Q E it s₂) E s := by
  refine texts_loop (nm := min len 10) hh hr (by split <;> omega) (by omega) F stored N hl0 hg0 (fun vs n k t u h tk own hk => turn vs n k t u h tk own (by omega) (by omega)) fun vs n u h tk h1 h2 => done vs n u h tk (by omega) fun v hv => ?_
  obtain ⟨x, t9, e1, e2, e3⟩ := h2 v hv
  exact ⟨x, t9, e1, by omega, e3⟩
end
theorem ok_small (c : Nat) (h : c < 128) : OkCp c := ⟨by omega, by simp [Str.isSurrogate]; omega⟩
theorem good7 (t1 t2 t3 t4 t5 t6 t7 : Tok) : ∀ v ∈ [Value.str (Str.ofString "") t1, .str (Str.ofString "&") t2, .str (Str.ofString "'") t3, .str (Str.ofString "\"") t4, .str (Str.ofString "%") t5, .str (Str.ofString "(") t6, .str (Str.ofString "<") t7], GoodT 1 v := by
  have key : ∀ (x : Str) (t : Tok), x.length ≤ 1 → (∀ c ∈ x.cps.toList, c < 128) → GoodT 1 (.str x t) := fun x t h1 h2 => ⟨x, t, rfl, h1, fun c hc => ok_small c (h2 c hc)⟩
  intro v hv
  simp only [List.mem_cons, List.not_mem_nil, or_false] at hv
  rcases hv with rfl | rfl | rfl | rfl | rfl | rfl | rfl <;> exact key _ _ (by decide +kernel) (by decide +kernel)
section
variable {prog : Program} {w : World} {A : Around} {E : Value → Shared → Prop} {s : Shared} {h₀ : Heap} {L lo : Addr} {own : List (Addr × Obj)} {vs : List Value} {n k K : Nat} {value slice : Expr} {t u : Tok} {Q : Value → Shared → Prop}
theorem len_T (N : News h₀ L s.heap ((lo, listOf vs.toArray n) :: own)) (hl : vs.length = 7 + k) (hk : k < 10) (h : Q (.int (7 + (k : Int)) (s.toks + 1)) { s with toks := s.toks + 1 + 1 }) : wpAny (model prog w) A (call (.builtin "len") [.ref lo]) Q E s := by
  have hL : s.heap.IsList lo vs.toArray := ⟨_, (N _ (.head _)).1, rfl, n, rfl⟩
  have e : ((vs.toArray.size : Nat) : Int) = 7 + (k : Int) := by rw [List.size_toArray]; omega
  exact len_list hL (by rw [List.size_toArray]; omega) (by rw [e]; exact h)
theorem item_T {x y : Int} (N : News h₀ L s.heap ((lo, listOf vs.toArray n) :: own)) (hl : vs.length = 7 + k) (hk : k < 10) (hg : ∀ v ∈ vs, GoodT K v) (hy : y = 7 + (k : Int)) (h : ∀ x' t, x'.length ≤ K → (∀ c ∈ x'.cps.toList, OkCp c) → Q (.str x' t) s)
    (hs : subscripted slice false (.ref lo) (.int (Int.fmod x y) u) = operate [.ref lo, .int (Int.fmod x y) u] (getItem (.ref lo) (.int (Int.fmod x y) u)) := by with_unfolding_all rfl) :
    wpAny (model prog w) A (subscriptTail value slice (.ref lo) (.int (Int.fmod x y) u)) Q E s := by
  have hL : s.heap.IsList lo vs.toArray := ⟨_, (N _ (.head _)).1, rfl, n, rfl⟩
  have h0 : 0 ≤ Int.fmod x y := Int.fmod_nonneg_of_pos x (by omega)
  have h1 : Int.fmod x y < y := Int.fmod_lt_of_pos x (by omega)
  have hi : (Int.fmod x y).toNat < vs.length := by omega
  obtain ⟨x', t', e1, e2, e3⟩ := hg _ (List.getElem_mem hi)
  refine tail_any hL.typeIs slot_list_getitem.lookup (wpAny_getItem_list hL h0 (by omega) ?_ (h x' t' e2 e3)) hs
  rw [← e1]
  simp [hi]
end
theorem slice_sub (x : Str) (l u : Option Int) : ∀ c ∈ (Txt.slice x l u).cps.toList, c ∈ x.cps.toList := by
  intro c hc
  unfold Txt.slice at hc
  split at hc
  · exact hc
  · simp only [List.mem_filterMap] at hc
    obtain ⟨i, _, hi⟩ := hc
    have := Array.mem_of_getElem? hi
    simpa using this
theorem good_new {x y : Str} {hi : Option Int} {t : Tok} {k : Nat} (hx : x.length ≤ k + 1) (ho : ∀ c ∈ x.cps.toList, OkCp c) (hs : (Txt.slice x none hi).length ≤ x.length) (hy : y.length = 1) (hyo : ∀ c ∈ y.cps.toList, OkCp c) : GoodT (k + 2) (.str (Txt.slice x none hi ++ y) t) := by
  refine ⟨_, t, rfl, ?_, ?_⟩
  · rw [Str.length_append]; omega
  · intro c hc
    rw [Str.cps_append, Array.toList_append] at hc
    rcases List.mem_append.mp hc with hc | hc
    · exact ho c (slice_sub x none hi c hc)
    · exact hyo c hc
theorem item_ok (i : Int) : ∀ c ∈ (Txt.item (Str.ofString "&<>\"'%(;#a~!") i).cps.toList, OkCp c := by
  intro c hc
  have e : (Txt.item (Str.ofString "&<>\"'%(;#a~!") i).cps.toList = [(Txt.charAt (Str.ofString "&<>\"'%(;#a~!") i).getD 0] := rfl
  rw [e] at hc
  rw [List.mem_singleton.mp hc]
  refine ok_small _ ?_
  have hb : ∀ d ∈ (Str.ofString "&<>\"'%(;#a~!").cps, d < 128 := by decide +kernel
  unfold Txt.charAt
  cases h : (seqIndex? i (Str.ofString "&<>\"'%(;#a~!").length).bind ((Str.ofString "&<>\"'%(;#a~!").cps[·]?) with
  | none => decide
  | some d =>
    obtain ⟨j, _, hj⟩ := Option.bind_eq_some_iff.mp h
    exact hb d (Array.mem_of_getElem? hj)
theorem chr_lo (x : Int) (h : Int.fmod x 1112064 < 55296) : ∀ c ∈ (⟨#[(Int.fmod x 1112064).toNat]⟩ : Str).cps.toList, OkCp c := by
  intro c hc
  have h0 : 0 ≤ Int.fmod x 1112064 := Int.fmod_nonneg_of_pos x (by decide)
  have e : c = (Int.fmod x 1112064).toNat := by simpa using hc
  subst e
  exact ⟨by omega, by simp [Str.isSurrogate]; omega⟩
theorem chr_hi (x : Int) (h : ¬ Int.fmod x 1112064 < 55296) : ∀ c ∈ (⟨#[(Int.fmod x 1112064 + 2048).toNat]⟩ : Str).cps.toList, OkCp c := by
  intro c hc
  have h0 : 0 ≤ Int.fmod x 1112064 := Int.fmod_nonneg_of_pos x (by decide)
  have h1 : Int.fmod x 1112064 < 1112064 := Int.fmod_lt_of_pos x (by decide)
  have e : c = (Int.fmod x 1112064 + 2048).toNat := by simpa using hc
  subst e
  exact ⟨by omega, by simp [Str.isSurrogate]; omega⟩
section
variable {Q : Flow → Shared → Prop} {s : Shared} {h₀ : Heap} {lo : Addr}
theorem endT_intro {L : Addr} {own : List (Addr × Obj)} {k n : Nat} {vs : List Value} {v : Value} {h' : Heap} {tk : Nat} {m₀ m' : Str → Option Value} {stored : List Str} (F : Fr h₀ L h' m') (N : News h₀ L h' ((lo, listOf (vs.toArray.push v) n) :: own)) (hg : GoodT (k + 2) v)
    (hr : ∀ z, z ≠ Str.ofString "place" → stored.contains z = false → m' z = m₀ z) : EndT h₀ L lo own s k vs m₀ stored Q .next { s with heap := h', toks := tk } := ⟨v, n, h', tk, m', rfl, F, N, hg, hr⟩
end
end
end Mine

namespace Mine
section
open PySem PySem.W PyProof.Rows PySem.Calls
set_option maxRecDepth 100000
set_option maxHeartbeats 8000000
local macro_rules | `(tactic| walk_at "pad 0") => `(tactic| skip)

section
local macro_rules | `(tactic| k_room) => `(tactic| ktr_room)
local macro_rules | `(tactic| walk_at "exec For Name Call cons nil") => `(tactic| (k_here; (rename Fr _ _ _ _ => lF'); (with_unfolding_all refine' For_invVF lF' ?k1 ?k2 ?_; (case k1 => exact rfl); (case k2 => exact rfl); k_whole)))
local macro_rules | `(tactic| walk_at "pyIter ref") => `(tactic| (k_here; (rename Fr _ _ _ _ => lF'); (rename News _ _ _ _ => lN'); (rename IsRange _ _ _ _ _ _ _ _ => rgX); (with_unfolding_all refine texts_loop' rfl rgX lF' [Str.ofString "number", Str.ofString "earlier", Str.ofString "cut", Str.ofString "rest", Str.ofString "which", Str.ofString "sign", Str.ofString "point"] lN' rfl (good7 _ _ _ _ _ _ _) ?_ ?_); clear lF' lN' rgX; (rotate_left; (intro vs n u h tk hV hG F' N'; (try dsimp only); (try k_fold)); rotate_right; (intro vs n k t u h tk own hk hk2 hV hG hoff F' N'; (try dsimp only); (try k_fold)))))
local macro_rules | `(tactic| walk_at "call builtin:len") => `(tactic| (k_here; (with_reducible show wpAny _ _ (call (Value.builtin "len") [Value.ref _]) _ _ _); (refine len_T (by assumption) (by assumption) (by assumption) ?_)))
local macro_rules | `(tactic| walk_at "subscriptTail") => `(tactic| (k_here; (with_reducible show wpAny _ _ (subscriptTail _ _ (Value.ref _) (Value.int (Int.fmod _ _) _)) _ _ _); (refine item_T (by assumption) (by assumption) (by assumption) (by assumption) rfl ?_); intro x9 t9 hx9 ho9))
theorem ct_texts (w : World) (mean : ExcName → Option Value) (mg mb : Str → Option Value) (lS : Addr) (vsS : List Value) (ns : List Int) (hI : IntsAre vsS ns) (hns : ns.length ≤ 63)
    (dp un : Nat) (gd : Option (List Code)) (cn : Str) (cs : Scope) (a : Addr) (ccd : Value) (cl : List (Str × Addr)) (outer : List Env) (A₀ : Around) (base h₀ : Heap) (L : Addr) (m : Str → Option Value) (s : Shared) (Q E : Value → Shared → Prop) :
    Below A₀ base outer h₀ → Fr h₀ L s.heap m → (hd.heap_39 w.params).In h₀ → TopQ mean mg mb h₀ → cs.kind = .function → dp + 20 < recursionLimit → un + 200 < cLine → s.heap.IsList lS vsS.toArray →
    (∀ r h' tk', s.heap.StaysIn h' → (∃ (a : Addr) (vs : List Value) (n : Nat), r = .ref a ∧ s.heap.get? a = none ∧ h'.get? a = some (listOf vs.toArray n) ∧ vs.length ≤ 17 ∧ ∀ v ∈ vs, GoodT 11 v) → Q r { s with heap := h', toks := tk' }) →
      wpAny (model Challenge.rw_qh0084_01.row.prog w) (ktrTop dp un gd cn cs L a ccd cl outer) (call (.ref 131) [.ref lS]) Q E s := by
  w_top off
  k_fill
  intro B F X T hk hd hu hl hret
  k_dflt (refine' call_pure (fun h r h' => ∃ (a : Addr) (vs : List Value) (n : Nat), r = .ref a ∧ h.get? a = none ∧ h'.get? a = some (listOf vs.toArray n) ∧ vs.length ≤ 17 ∧ ∀ v ∈ vs, GoodT 11 v) ?k1 ?k2 ?k3 ?k5 ?kA ?kF ?kK ?kR ?k6 ?k7 ?k8 ?k9 ?kB ?kP ?_ ?c2 ?c3 ?c4 ?c5; (case kA => exact rfl); (case kF => exact rfl); (case kK => assumption); (case k1 => k_asm); (case k2 => k_asm); (case k3 => k_asm); (case k5 => k_asm); (case kR => exact hret); (case k6 => k_is); (case k7 => k_is); (case k8 => ktr_room); (case k9 => first | exact BindsTo.of_eq rfl | exact binds_K (by k_in) rfl (by k_is) rfl rfl rfl); (case c5 => decide); (case kB => exact locs rfl); (case kP => exact Nat.zero_lt_succ _); (case c2 => exact rfl); (case c3 => exact rfl); (case c4 => exact rfl); k_whole; intro L' h' tk htk F' N' B' X' T'; clear hret; (try dsimp only); (try k_lift B'); (try k_fold))
  k_steps
  · refine endT_intro (by assumption) (by assumption) (good_new (by assumption) (by assumption) (by assumption) rfl (item_ok _)) ?_
    (intro z h1 h2; have h3 := h2; simp only [List.contains_cons, List.contains_nil, Bool.or_false, Bool.or_eq_false_iff, beq_eq_false_iff_ne, ne_eq] at h3; simp [h1, h2, h3])
  · refine endT_intro (by assumption) (by assumption) (good_new (by assumption) (by assumption) (by assumption) rfl (chr_lo _ (by assumption))) ?_
    (intro z h1 h2; have h3 := h2; simp only [List.contains_cons, List.contains_nil, Bool.or_false, Bool.or_eq_false_iff, beq_eq_false_iff_ne, ne_eq] at h3; simp [h1, h2, h3])
  · refine endT_intro (by assumption) (by assumption) (good_new (by assumption) (by assumption) (by assumption) rfl (chr_hi _ (by assumption))) ?_
    (intro z h1 h2; have h3 := h2; simp only [List.contains_cons, List.contains_nil, Bool.or_false, Bool.or_eq_false_iff, beq_eq_false_iff_ne, ne_eq] at h3; simp [h1, h2, h3])
  · show Done _ _ _ _
    rename News _ _ _ _ => nE
    exact ⟨_, _, _, _, rfl, by assumption, _, _, _, rfl, (nE _ (.head _)).2.2, (nE _ (.head _)).1, by assumption, by assumption⟩
end
end
end Mine

namespace Mine
section
open PySem PySem.W PyProof.Rows PySem.Calls
set_option maxRecDepth 100000
set_option maxHeartbeats 4000000
/-- Python's order of two lists of ints -/
def ltI : List Int → List Int → Bool
  | [], [] => false
  | [], _ :: _ => true
  | _ :: _, [] => false
  | x :: xs, y :: ys => if x = y then ltI xs ys else decide (x < y)
theorem ints_at {vs : List Value} {ns : List Int} (h : IntsAre vs ns) : ∀ i (hi : i < ns.length), ∃ t, vs.toArray[i]? = some (.int (ns[i]'hi) t) := by
  induction h with
  | nil => intro i hi; exact absurd hi (Nat.not_lt_zero _)
  | cons n t _ ih =>
    intro i hi
    cases i with
    | zero => exact ⟨t, by simp⟩
    | succ i =>
      obtain ⟨t', e⟩ := ih i (Nat.lt_of_succ_lt_succ hi)
      exact ⟨t', by simpa using e⟩
open PySem.AutoSeq1 (wpAny_loadPart') in
theorem lt_loop (l b : Addr) (vs us : List Value) (ns ms : List Int) (n n2 : Nat) (d1 d2 : Option Addr) (s1 s2 : Array (Option Value)) (hv : IntsAre vs ns) (hu : IntsAre us ms) (k : Nat) :
    ∀ i : Nat, ns.length - i = k → i ≤ ns.length → i ≤ ms.length → Meets (Builtin.«list.__eq__.loop» ⟨[.ref l, .ref b, rawInt i, rawInt 0], []⟩)
      (fun _ R s => s.heap.get? l = some { cls := .type "list", dict := d1, data := .seq vs.toArray n, slots := s1 } ∧ s.heap.get? b = some { cls := .type "list", dict := d2, data := .seq us.toArray n2, slots := s2 } ∧
        R (.ok (.ret (.bool (ltI (ns.drop i) (ms.drop i))))) s) := by
  have e1 : vs.toArray.size = ns.length := by rw [List.size_toArray, hv.length]
  have e2 : us.toArray.size = ms.length := by rw [List.size_toArray, hu.length]
  induction k with
  | zero =>
    intro i hk h1 h2 prog w A R s h
    obtain ⟨hp, g, d, tk, os⟩ := s; obtain ⟨hl, hb, h⟩ := h
    wp_walk using wpAny_loadPart' hl, wpAny_loadPart' hb
    have hi1 : vs.toArray[((i : Nat) : Int).toNat]? = none := by simp [hv.length]; omega
    rw [hi1]
    wp_walk using wpAny_loadPart' hl, wpAny_loadPart' hb
    show R (.ok (.ret (.bool (decide (vs.toArray.size < us.toArray.size))))) _
    rw [e1, e2]
    have hn : ns.drop i = [] := List.drop_of_length_le (by omega)
    rw [hn] at h
    by_cases hm : i < ms.length
    · have hd : ms.drop i = ms[i] :: ms.drop (i + 1) := List.drop_eq_getElem_cons hm
      rw [hd] at h
      rw [decide_eq_true (by omega)]
      exact h
    · have hd : ms.drop i = [] := List.drop_of_length_le (by omega)
      rw [hd] at h
      rw [decide_eq_false (by omega)]
      exact h
  | succ k ih =>
    intro i hk h1 h2 prog w A R s h
    obtain ⟨hp, g, d, tk, os⟩ := s; obtain ⟨hl, hb, h⟩ := h
    wp_walk using wpAny_loadPart' hl, wpAny_loadPart' hb
    have hlt : i < ns.length := by omega
    obtain ⟨t1, x1⟩ := ints_at hv i hlt
    have hi1 : vs.toArray[((i : Nat) : Int).toNat]? = some (.int ns[i] t1) := by rw [Int.toNat_natCast]; exact x1
    have hd1 : ns.drop i = ns[i] :: ns.drop (i + 1) := List.drop_eq_getElem_cons hlt
    rw [hi1]
    by_cases hm : i < ms.length
    · obtain ⟨t2, x2⟩ := ints_at hu i hm
      have hi2 : us.toArray[((i : Nat) : Int).toNat]? = some (.int ms[i] t2) := by rw [Int.toNat_natCast]; exact x2
      have hd2 : ms.drop i = ms[i] :: ms.drop (i + 1) := List.drop_eq_getElem_cons hm
      have hc : ((i : Int) + 1) = ((i + 1 : Nat) : Int) := by push_cast; rfl
      rw [hi2]
      rw [hd1, hd2] at h
      refine wpAny_bind (wpAny_eqBool_int ?_)
      by_cases he : ns[i] = ms[i]
      · rw [beq_iff_eq.mpr he]
        wp_walk
        rw [hc]
        refine ⟨plainId_quiet MeetsSeq3.plain_eq_loop _, codeAny_builtin MeetsSeq3.entry_eq_loop (by
          rw [Around.under_plainId MeetsSeq3.plain_eq_loop _]
          refine ih (i + 1) (by omega) (by omega) (by omega) prog w A R _ ⟨hl, hb, ?_⟩
          have : ltI (ns[i] :: ns.drop (i + 1)) (ms[i] :: ms.drop (i + 1)) = ltI (ns.drop (i + 1)) (ms.drop (i + 1)) := by
            show (if ns[i] = ms[i] then _ else _) = _
            rw [if_pos he]
          rw [this] at h
          exact h)⟩
      · rw [beq_eq_false_iff_ne.mpr he]
        wp_walk using wpAny_loadPart' hl, wpAny_loadPart' hb
        rw [hi1, hi2]
        have e3 : ltI (ns[i] :: ns.drop (i + 1)) (ms[i] :: ms.drop (i + 1)) = decide (ns[i] < ms[i]) := by
          show (if ns[i] = ms[i] then _ else _) = _
          rw [if_neg he]
        rw [e3] at h
        refine wpAny_bind ?_
        show wpAny (model prog w) _ (compareOp .Lt (.int ns[i] t1) (.int ms[i] t2)) _ _ _
        exact wpAny_lt_int (wpAny_pure h)
    · have hi2 : us.toArray[((i : Nat) : Int).toNat]? = none := by simp [hu.length]; omega
      rw [hi2]
      wp_walk using wpAny_loadPart' hl, wpAny_loadPart' hb
      show R (.ok (.ret (.bool (decide (vs.toArray.size < us.toArray.size))))) _
      rw [e1, e2]
      have hd2 : ms.drop i = [] := List.drop_of_length_le (by omega)
      rw [hd1, hd2] at h
      rw [decide_eq_false (by omega)]
      exact h
open PySem.AutoSeq1 (wpAny_loadPart') in
theorem list_lt (l b : Addr) (vs us : List Value) (ns ms : List Int) (n n2 : Nat) (d1 d2 : Option Addr) (s1 s2 : Array (Option Value)) (hv : IntsAre vs ns) (hu : IntsAre us ms) :
    Meets (Builtin.«list.__lt__» ⟨[.ref l, .ref b], []⟩)
      (fun _ R s => s.heap.get? l = some { cls := .type "list", dict := d1, data := .seq vs.toArray n, slots := s1 } ∧ s.heap.get? b = some { cls := .type "list", dict := d2, data := .seq us.toArray n2, slots := s2 } ∧
        R (.ok (.ret (.bool (ltI ns ms)))) s) := by
  intro prog w A R s h
  obtain ⟨hp, g, d, tk, os⟩ := s; obtain ⟨hl, hb, h⟩ := h
  have f3 := AutoSeq1.sub_list_list
  wp_walk using wpAny_loadPart' hl, wpAny_loadPart' hb
  exact ⟨plainId_quiet MeetsSeq3.plain_eq_loop _, codeAny_builtin MeetsSeq3.entry_eq_loop (by
    rw [Around.under_plainId MeetsSeq3.plain_eq_loop _]
    exact lt_loop l b vs us ns ms n n2 d1 d2 s1 s2 hv hu _ 0 rfl (Nat.zero_le _) (Nat.zero_le _) prog w A R _ ⟨hl, hb, by simpa using h⟩)⟩
section
variable {prog : Program} {w : World} {A : Around} {E : Value → Shared → Prop} {s : Shared} {Q : Value → Shared → Prop}
theorem lt_lists {l b : Addr} {vs us : List Value} {ns ms : List Int} (hl : s.heap.IsList l vs.toArray) (hb : s.heap.IsList b us.toArray) (hv : IntsAre vs ns) (hu : IntsAre us ms) (hr : A.units < cLine) (h : Q (.bool (ltI ns ms)) s) :
    wpAny (model prog w) A (compareOp .Lt (.ref l) (.ref b)) Q E s := by
  obtain ⟨⟨c1, d1, t1, s1⟩, hl, e1, n1, f1⟩ := hl
  obtain ⟨⟨c2, d2, t2, s2⟩, hb, e2, n2, f2⟩ := hb
  dsimp only at e1 f1 e2 f2
  subst e1 f1 e2 f2
  show wpAny (model prog w) A (richCompare .Lt (.ref l) (.ref b)) Q E s
  exact richCompare_meets_room (T := "list") ⟨_, hl, rfl⟩ ⟨_, hb, rfl⟩ F.slot_list_lt F.entry_list_lt (F.args_list_lt_2 _ _) (list_lt l b vs us ns ms n1 n2 d1 d2 s1 s2 hv hu) ⟨hl, hb, ⟨(by intro e; cases e), h⟩⟩ hr
end
end
end Mine

namespace Mine
section
open PySem PySem.W PyProof.Rows PySem.Calls
set_option maxRecDepth 10000
theorem ltI_ordL : ∀ a b : List Nat, ltI (a.map fun (n : Nat) => (n : Int)) (b.map fun (n : Nat) => (n : Int)) = (ordL a b == .lt)
  | [], [] => rfl
  | [], _ :: _ => rfl
  | _ :: _, [] => rfl
  | x :: a, y :: b => by
    show (if (x : Int) = (y : Int) then ltI _ _ else decide ((x : Int) < (y : Int))) = ((if x < y then Ordering.lt else if x > y then .gt else ordL a b) == .lt)
    rw [ltI_ordL a b]
    by_cases h : x = y
    · subst h
      rw [if_pos rfl, if_neg (Nat.lt_irrefl _), if_neg (Nat.lt_irrefl _)]
    · rw [if_neg (by omega)]
      by_cases h2 : x < y
      · rw [if_pos h2, decide_eq_true (by omega)]; rfl
      · rw [if_neg h2, if_pos (by omega), decide_eq_false (by omega)]; rfl
/-- the law's last question -/
theorem orders_agree (q : Bool) (l₁ l₂ : List Nat) (h1 : ∀ c ∈ l₁, c < 0x110000) (h2 : ∀ c ∈ l₂, c < 0x110000) : (Builtin.Bytes.order (writ q l₁) (writ q l₂) == .lt) = ltI (rks q l₁) (rks q l₂) := by
  have e : ∀ l : List Nat, rks q l = (l.map (rk q)).map fun (n : Nat) => (n : Int) := fun l => by rw [List.map_map]; rfl
  rw [writ_order q l₁ l₂ h1 h2, e, e, ltI_ordL]
end
end Mine

namespace Mine
section
open PySem PySem.W PyProof.Rows PySem.Calls
set_option maxRecDepth 100000
set_option maxHeartbeats 8000000

theorem texts_use {w : World} {mean : ExcName → Option Value} {mg mb : Str → Option Value} {lS : Addr} {vsS : List Value} {ns : List Int}
    {dp un : Nat} {gd : Option (List Code)} {cn : Str} {cs : Scope} {a : Addr} {ccd : Value} {cl : List (Str × Addr)} {outer : List Env} {A₀ : Around} {base h₀ : Heap} {L : Addr} {m : Str → Option Value} {news : List (Addr × Obj)} {s : Shared} {Q E : Value → Shared → Prop}
    (B : Below A₀ base outer h₀) (F : Fr h₀ L s.heap m) (X : (hd.heap_39 w.params).In h₀) (N : News h₀ L s.heap news) (T : TopQ mean mg mb h₀) (hk : cs.kind = .function) (hd : dp + 20 < recursionLimit) (hu : un + 200 < cLine)
    (hl : h₀.IsList lS vsS.toArray) (hI : IntsAre vsS ns) (hns : ns.length ≤ 63)
    (ret : ∀ (a : Addr) (vs : List Value) (n : Nat) (h' : Heap) (tk' : Nat), Fr h₀ L h' m → News h₀ L h' ((a, listOf vs.toArray n) :: news) → (∀ p ∈ news, @Ne Nat p.1 a) → vs.length ≤ 17 → (∀ v ∈ vs, GoodT 11 v) → Q (.ref a) { s with heap := h', toks := tk' }) :
    wpAny (model Challenge.rw_qh0084_01.row.prog w) (ktrTop dp un gd cn cs L a ccd cl outer) (call (.ref 131) [.ref lS]) Q E s := by
  refine ct_texts w mean mg mb lS vsS ns hI hns _ _ _ _ _ _ _ _ _ _ _ _ _ _ _ _ _ B F X T hk hd hu (stays_list F.keep hl) fun r h' tk' st hp => ?_
  obtain ⟨a', vs, n, rfl, h1, h2, h3, h4⟩ := hp
  refine ret a' vs n h' tk' ⟨F.ns.keeps st, fun b o e => st b o (F.keep b o e), F.above⟩ ?_ ?_ h3 h4
  · intro p hp
    rcases List.mem_cons.mp hp with rfl | hp
    · refine ⟨h2, fun e => ?_, ?_⟩
      · obtain ⟨o, es, ep, ho, _⟩ := F.ns
        have e' : a' = L := e
        rw [e', ho] at h1
        cases h1
      · cases e : h₀.get? a' with
        | none => rfl
        | some o => rw [F.keep _ _ e] at h1; cases h1
    · exact ⟨st _ _ (N p hp).1, (N p hp).2⟩
  · intro p hp e
    have := (N p hp).1
    rw [e, h1] at this
    cases this
end
end Mine

namespace Mine
section
open PySem PySem.W PyProof.Rows PySem.Calls
set_option maxRecDepth 100000
set_option maxHeartbeats 8000000

def GoodS (x : Str) : Prop := x.length ≤ 11 ∧ ∀ c ∈ x.cps.toList, OkCp c
def uw (q : Bool) (x : Str) : List UInt8 := (x.cps.toList.flatMap (escC q)).flatMap Str.utf8Of
theorem esc_ok {q : Bool} {x : Str} (h : GoodS x) : ∀ c ∈ (escT q x).cps.toList, OkCp c := by
  intro c hc
  rw [escT_eq] at hc
  obtain ⟨a, ha, hc⟩ := List.mem_flatMap.mp hc
  exact escC_ok q OkCp (fun c h => ok_small c h) a (h.2 a ha) c hc
theorem flat_le {α : Type} (f : Nat → List α) (k : Nat) (hf : ∀ c, (f c).length ≤ k) (l : List Nat) : (l.flatMap f).length ≤ l.length * k := by
  induction l with
  | nil => simp
  | cons c l ih =>
    rw [List.flatMap_cons, List.length_append, List.length_cons, Nat.add_mul]
    have := hf c
    omega
theorem esc_len {q : Bool} {x : Str} (h : GoodS x) : (x.cps.toList.flatMap (escC q)).length ≤ 66 := by
  have h1 := flat_le (escC q) 6 (escC_len q) x.cps.toList
  have h2 : x.cps.toList.length ≤ 11 := by simpa [Str.length] using h.1
  omega
theorem escT_len {q : Bool} {x : Str} (h : GoodS x) : (escT q x).length ≤ 66 := by
  have h1 := esc_len (q := q) h
  rw [← escT_eq] at h1
  simpa [Str.length] using h1
theorem utf8_len4 (c : Nat) : (Str.utf8Of c).length ≤ 4 := by unfold Str.utf8Of; (repeat' split) <;> simp
theorem uw_len {q : Bool} {x : Str} (h : GoodS x) : (uw q x).length ≤ 264 := by
  have h1 := flat_le Str.utf8Of 4 utf8_len4 (x.cps.toList.flatMap (escC q))
  have h2 := esc_len (q := q) h
  unfold uw
  omega
section
variable {prog : Program} {w : World} {A : Around} {E : Value → Shared → Prop} {s : Shared} {x : Str} {q : Bool} {t u : Tok} {Q : Value → Shared → Prop}
theorem enc_esc (hx : GoodS x) (h : Q (.bytes (uw q x).toArray s.toks) { s with toks := s.toks + 1 }) : wpAny (model prog w) A (call (.builtin "str.encode") [.str (escT q x) t, .str (Str.ofString "utf-8") u]) Q E s := by
  have e : (escT q x).cps.toList.flatMap Str.utf8Of = uw q x := by rw [escT_eq]; rfl
  refine call_enc8 (fun c hc => (esc_ok hx c hc).2) (by rw [e]; have := uw_len (q := q) hx; omega) ?_
  rw [e]
  exact h
theorem dec_esc (hx : GoodS x) (h : ∀ t' k, Q (.str (escT q x) t') { s with toks := k }) : wpAny (model prog w) A (call (.builtin "bytes.decode") [.bytes (uw q x).toArray t, .str (Str.ofString "utf-8") u]) Q E s := by
  have e : (⟨((escT q x).cps.toList).toArray⟩ : Str) = escT q x := rfl
  refine call_dec (escT q x).cps.toList (by rw [escT_eq]; rfl) (esc_ok hx) ?_ fun t' k _ => ?_
  · have := escT_len (q := q) hx
    simp only [Str.length, Array.length_toList] at *
    omega
  · rw [e]; exact h t' k
theorem ne_same (h : Q (.bool false) s) : wpAny (model prog w) A (compareOp .NotEq (.str x t) (.str x u)) Q E s := by
  refine ne_str ?_
  simpa using h
end
theorem ct_backesc (w : World) (mean : ExcName → Option Value) (mg mb : Str → Option Value) (x : Str) (q : Bool) (t : Tok) (hx : GoodS x) : PC 20 w mean mg mb 145 [.str (escT q x) t] (fun _ r _ => ∃ t, r = .str x t) := by
  have h := ct_back w mean mg mb (escT q x) t (by have := escT_len (q := q) hx; omega)
  rw [back_esc q x (escT q x) (escT_eq q x)] at h
  exact h
theorem ct_escS (w : World) (mean : ExcName → Option Value) (mg mb : Str → Option Value) (x : Str) (q : Bool) (t : Tok) (hx : GoodS x) : PC 20 w mean mg mb 46 [.str x t, .bool q] (fun _ r _ => ∃ t, r = .str (escT q x) t) :=
  ct_escape w mean mg mb x t q (by have := hx.1; omega)
theorem ct_encS (w : World) (mean : ExcName → Option Value) (mg mb : Str → Option Value) (x : Str) (q : Bool) (t : Tok) (hx : GoodS x) : PC 20 w mean mg mb 116 [.bytes (uw q x).toArray t] (fun _ r _ => ∃ t, r = .bytes (writ q x.cps.toList).toArray t) :=
  ct_b16encode w mean mg mb (uw q x) t (by have := uw_len (q := q) hx; omega)
theorem ct_decS (w : World) (mean : ExcName → Option Value) (mg mb : Str → Option Value) (x : Str) (q : Bool) (t : Tok) (hx : GoodS x) : PC 20 w mean mg mb 124 [.bytes (writ q x.cps.toList).toArray t] (fun _ r _ => ∃ t, r = .bytes (uw q x).toArray t) :=
  ct_b16decode w mean mg mb (uw q x) (writ q x.cps.toList) t rfl (b16_length _) (by have := uw_len (q := q) hx; omega) (b16_hex _)
end
end Mine

namespace Mine
section
open PySem PySem.W PyProof.Rows PySem.Calls
set_option maxRecDepth 100000
set_option maxHeartbeats 8000000

/-- the writings of the texts -/
def Writs (q : Bool) (vs ws : List Value) : Prop := ws.length = vs.length ∧ ∀ (j : Nat) (x : Str) (t : Tok), vs[j]? = some (Value.str x t) → ∃ u, ws[j]? = some (Value.bytes (writ q x.cps.toList).toArray u)
theorem Writs.snoc {q : Bool} {vs ws : List Value} {x : Str} {t u : Tok} (h : Writs q vs ws) : Writs q (vs ++ [Value.str x t]) (ws ++ [Value.bytes (writ q x.cps.toList).toArray u]) := by
  obtain ⟨h1, h2⟩ := h
  refine ⟨by simp [h1], fun j y ty hj => ?_⟩
  by_cases hlt : j < vs.length
  · rw [List.getElem?_append_left hlt] at hj
    obtain ⟨u', e⟩ := h2 j y ty hj
    exact ⟨u', by rw [List.getElem?_append_left (by omega)]; exact e⟩
  · by_cases he : j = vs.length
    · subst he
      rw [List.getElem?_append_right (Nat.le_refl _), Nat.sub_self] at hj
      simp at hj
      obtain ⟨rfl, rfl⟩ := hj
      exact ⟨u, by rw [List.getElem?_append_right (by omega), h1, Nat.sub_self]; rfl⟩
    · rw [List.getElem?_eq_none (by simp; omega)] at hj
      cases hj
/-- a turn of the first loop, ended -/
def End1 (h₀ : Heap) (L lw : Addr) (cst own : List (Addr × Obj)) (s : Shared) (q : Bool) (x : Str) (ws : List Value) (m₀ : Str → Option Value) (Q : Flow → Shared → Prop) (f : Flow) (s₂ : Shared) : Prop :=
  match f with
  | .ret v => Q (.ret v) s₂
  | .brk => Q .next s₂
  | _ => ∃ t n h' tk m', s₂ = { s with heap := h', toks := tk } ∧ Fr h₀ L h' m' ∧ News h₀ L h' ((lw, listOf (ws.toArray.push (.bytes (writ q x.cps.toList).toArray t)) n) :: (cst ++ own)) ∧
      ∀ z, z ≠ Str.ofString "text" → z ≠ Str.ofString "writing" → m' z = m₀ z
section
variable {prog : Program} {w : World} {A : Around} {E : Value → Shared → Prop} {Q : Flow → Shared → Prop} {s : Shared} {env : Env} {h₀ : Heap} {lw : Addr}
theorem law_loop1 {body : List Stmt} {m₀ : Str → Option Value} {q : Bool} {a9 : Addr} {vs : List Value} {n9 : Nat} {cst : List (Addr × Obj)} (_hq : Meant q) (hh : A.handled = none)
    (hm : (a9, listOf vs.toArray n9) ∈ cst) (hg : ∀ v ∈ vs, GoodT 11 v)
    (F : Fr h₀ env.locals s.heap m₀) (N : News h₀ env.locals s.heap ((lw, listOf #[] 0) :: cst))
    (turn : ∀ (x : Str) (tx : Tok) (ws : List Value) (n : Nat) (u : Str → Option Value) h tk own, GoodS x → ws.length < vs.length → OwnOff own (lw :: cst.map (·.1)) →
      Fr h₀ env.locals h (fun y => if y = Str.ofString "text" then some (.str x tx) else if y = Str.ofString "writing" then u y else m₀ y) → News h₀ env.locals h ((lw, listOf ws.toArray n) :: (cst ++ own)) →
      wpAny (model prog w) A (execs body env) (End1 h₀ env.locals lw cst own { s with heap := h, toks := tk } q x ws m₀ Q) E { s with heap := h, toks := tk })
    (done : ∀ (ws : List Value) (n : Nat) (u : Str → Option Value) h tk, Writs q vs ws → Fr h₀ env.locals h (fun y => if y = Str.ofString "text" then u y else if y = Str.ofString "writing" then u y else m₀ y) → News h₀ env.locals h ((lw, listOf ws.toArray n) :: cst) → Q .next { s with heap := h, toks := tk }) :
    wpAny (model prog w) A (pyIter (.ref a9)) (fun it s₂ => LoopAtV prog w A h₀ env (Str.ofString "text") body Q E it s₂) E s := by
  refine kdl_iter (vs := vs) (nn := n9) (news := (lw, listOf #[] 0) :: cst) (fun i m nx => ∃ ws n, nx = (lw, listOf ws.toArray n) :: cst ∧ Writs q (vs.take i) ws ∧ ∀ z, z ≠ Str.ofString "text" → z ≠ Str.ofString "writing" → m z = m₀ z)
    hh (.tail _ hm) F N ⟨[], 0, rfl, ⟨rfl, fun j x t hj => by simp at hj⟩, fun _ _ _ => rfl⟩ ?_ ?_
  · rintro i v m₁ nx h tk own hv hoff _ ⟨ws, n, rfl, hW, hr⟩ F₁ N₁
    obtain ⟨x, tx, rfl, hx⟩ := hg v (List.mem_of_getElem? hv)
    have hi : i < vs.length := (List.getElem?_eq_some_iff.mp hv).1
    have hwl : ws.length = i := by rw [hW.1, List.length_take]; omega
    have F₂ : Fr h₀ env.locals h (fun y => if y = Str.ofString "text" then some (.str x tx) else if y = Str.ofString "writing" then m₁ y else m₀ y) := by
      have e : (fun y => if y = Str.ofString "text" then some (Value.str x tx) else m₁ y) = (fun y => if y = Str.ofString "text" then some (.str x tx) else if y = Str.ofString "writing" then m₁ y else m₀ y) := by
        funext y
        by_cases h1 : y = Str.ofString "text"
        · rw [if_pos h1, if_pos h1]
        · rw [if_neg h1, if_neg h1]
          by_cases h2 : y = Str.ofString "writing"
          · rw [if_pos h2]
          · rw [if_neg h2, hr y h1 h2]
      rw [← e]
      exact F₁
    refine wpAny_mono (turn x tx ws n m₁ h tk own hx (by omega) hoff F₂ N₁) (fun f s₂ p => ?_) fun _ _ y => y
    have fin : (∃ t n h' tk' m', s₂ = { { s with heap := h, toks := tk } with heap := h', toks := tk' } ∧ Fr h₀ env.locals h' m' ∧ News h₀ env.locals h' ((lw, listOf (ws.toArray.push (.bytes (writ q x.cps.toList).toArray t)) n) :: (cst ++ own)) ∧
        ∀ z, z ≠ Str.ofString "text" → z ≠ Str.ofString "writing" → m' z = m₀ z) →
        InvEndG h₀ env.locals (fun m' nx => (a9, listOf vs.toArray n9) ∈ nx ∧ ∃ ws n, nx = (lw, listOf ws.toArray n) :: cst ∧ Writs q (vs.take (i + 1)) ws ∧ ∀ z, z ≠ Str.ofString "text" → z ≠ Str.ofString "writing" → m' z = m₀ z) own { s with heap := h, toks := tk } s₂ := by
      rintro ⟨t', n', h', tk', m', rfl, F', N', hr'⟩
      refine ⟨h', tk', m', _, (lw, listOf (ws ++ [Value.bytes (writ q x.cps.toList).toArray t']).toArray n') :: cst, rfl, F', N', ?_, ?_, hoff, .tail _ hm, _, _, rfl, ?_, hr'⟩
      · intro p hp
        rw [List.push_toArray]
        rcases List.mem_cons.mp hp with rfl | hp
        · exact .head _
        · exact .tail _ (List.mem_append.mpr (.inl hp))
      · intro p hp
        exact .tail _ (List.mem_append.mpr (.inr hp))
      · have e : vs.take (i + 1) = vs.take i ++ [Value.str x tx] := by rw [List.take_add_one, hv]; rfl
        rw [e]
        exact hW.snoc
    cases f with
    | ret v => exact p
    | brk => exact p
    | next => exact fin p
    | cont => exact fin p
  · rintro m₁ nx h tk ⟨ws, n, rfl, hW, hr⟩ F₁ N₁
    rw [List.take_length] at hW
    refine done ws n m₁ h tk hW ?_ N₁
    have e : m₁ = (fun y => if y = Str.ofString "text" then m₁ y else if y = Str.ofString "writing" then m₁ y else m₀ y) := by
      funext y
      by_cases h1 : y = Str.ofString "text"
      · rw [if_pos h1]
      · rw [if_neg h1]
        by_cases h2 : y = Str.ofString "writing"
        · rw [if_pos h2]
        · rw [if_neg h2, hr y h1 h2]
    rw [← e]
    exact F₁
theorem end1_intro {L : Addr} {cst own : List (Addr × Obj)} {q : Bool} {x : Str} {n : Nat} {ws : List Value} {t : Tok} {h' : Heap} {tk : Nat} {m₀ m' : Str → Option Value} (F : Fr h₀ L h' m') (N : News h₀ L h' ((lw, listOf (ws.toArray.push (.bytes (writ q x.cps.toList).toArray t)) n) :: (cst ++ own)))
    (hr : ∀ z, z ≠ Str.ofString "text" → z ≠ Str.ofString "writing" → m' z = m₀ z) : End1 h₀ L lw cst own s q x ws m₀ Q .next { s with heap := h', toks := tk } := ⟨t, n, h', tk, m', rfl, F, N, hr⟩
end
end
end Mine

namespace Mine
section
open PySem PySem.W PyProof.Rows PySem.Calls
set_option maxRecDepth 100000
set_option maxHeartbeats 8000000

/-- the rows of the texts, in the ledger -/
def RowsIn (q : Bool) (led : List (Addr × Obj)) (vs rs : List Value) : Prop := rs.length = vs.length ∧ ∀ (j : Nat) (x : Str) (t : Tok), vs[j]? = some (Value.str x t) →
  ∃ (T : Addr) (o : Obj) (us : List Value) (n : Nat), rs[j]? = some (Value.ref T) ∧ (T, o) ∈ led ∧ o.cls = .type "list" ∧ o.data = .seq us.toArray n ∧ IntsAre us (rks q x.cps.toList)
def RowG (q : Bool) (v : Value) (its : Array Value) : Prop := ∃ x t us, v = Value.str x t ∧ its = (us : List Value).toArray ∧ IntsAre us (rks q x.cps.toList)
theorem rows_of {q : Bool} {h₁ h : Heap} {vs rs : List Value} (P : Paired (LstIs h₁ (RowG q) h) vs rs) : ∃ led : List (Addr × Obj), (∀ p ∈ led, h.get? p.1 = some p.2 ∧ h₁.get? p.1 = none) ∧ RowsIn q led vs rs := by
  induction P with
  | nil => exact ⟨[], (fun _ hp => by cases hp), rfl, fun j x t hj => by simp at hj⟩
  | cons hF _ ih =>
    obtain ⟨led, h1, h2, h3⟩ := ih
    obtain ⟨T, its, rfl, hT, ⟨o, ho, hc, n, hd⟩, x, t, us, rfl, rfl, hI⟩ := hF
    refine ⟨(T, o) :: led, ?_, by simp [h2], ?_⟩
    · intro p hp
      rcases List.mem_cons.mp hp with rfl | hp
      · exact ⟨ho, hT⟩
      · exact h1 p hp
    · intro j y ty hj
      cases j with
      | zero =>
        simp at hj
        obtain ⟨rfl, rfl⟩ := hj
        exact ⟨T, o, us, n, rfl, .head _, hc, hd, hI⟩
      | succ j =>
        obtain ⟨T', o', us', n', e1, e2, e3⟩ := h3 j y ty (by simpa using hj)
        exact ⟨T', o', us', n', by simpa using e1, .tail _ e2, e3⟩
section
variable {prog : Program} {w : World} {A : Around} {E : Value → Shared → Prop} {s : Shared} {env : Env} {h₀ : Heap} {L : Addr} {m : Str → Option Value} {news : List (Addr × Obj)} {Q : Value → Shared → Prop}
theorem law_comp {elt iter : Expr} {px pos : Pos} {scope : Scope} {cl : List (Str × Addr)} {q : Bool} {a9 : Addr} {vs : List Value} {n9 : Nat} (_hq : Meant q) (hh : A.handled = none)
    (hclos : closureFor scope env = pure cl) (hcell : ∀ y ∈ scope.names, y.2 ≠ .cell) (hkind : scope.kind = .function)
    (hnames : ∀ y ∈ scope.names, y.2 = .local → scope.names.lookup y.1 = some .local) (hx : scope.names.lookup (Str.ofString "text") = some .local)
    (hit : wpAny (model prog w) A (eval iter env) (fun xv s₁ => xv = .ref a9 ∧ s₁ = s) E s)
    (hs : ∀ x, foldedSetIterable iter env x = pure x)
    (hm : (a9, listOf vs.toArray n9) ∈ news) (hg : ∀ v ∈ vs, GoodT 11 v) (hv17 : vs.length ≤ 17) (F : Fr h₀ L s.heap m) (N : News h₀ L s.heap news)
    (elts : ∀ (C : Addr) (x : Str) (tx : Tok) (s₃ : Shared) (m₃ : Str → Option Value) (E' : Value → Shared → Prop), GoodS x → s₃.heap.Ns C m₃ → m₃ (Str.ofString "text") = some (.str x tx) → Fr h₀ L s₃.heap m → News h₀ L s₃.heap news →
      wpAny (model prog w) A (eval elt (compEnvC scope cl C env)) (fun y s₄ => (∃ T its, y = .ref T ∧ s₃.heap.get? T = none ∧ s₄.heap.IsList T its ∧ RowG q (.str x tx) its) ∧ Keeps s₃ s₄) E' s₃)
    (done : ∀ (D : Addr) (rs : List Value) (nD : Nat) (led : List (Addr × Obj)) (h' : Heap) (tk : Nat), Fr h₀ L h' m → News h₀ L h' ((D, listOf rs.toArray nD) :: (news ++ led)) → RowsIn q led vs rs → Q (.ref D) { s with heap := h', toks := tk }) :
    wpAny (model prog w) A (eval (.ListComp elt [⟨.Name (Str.ofString "text") px, iter, [], 0⟩] scope pos) env) Q E s := by
  refine wpAny_ListComp_freeO (fun _ => true) (RowG q) hclos hcell hkind hnames hx (wpAny_mono hit (fun xv s₁ h₁ => ?_) fun _ _ e => e) hs
  obtain ⟨rfl, e2⟩ := h₁
  rw [e2]
  have hol : s.heap.get? a9 = some (listOf vs.toArray n9) := (N _ hm).1
  have hls : s.heap.IsList a9 vs.toArray := ⟨_, hol, rfl, n9, rfl⟩
  have hne : a9 ≠ s.heap.objs.size := Nat.ne_of_lt (Heap.lt_size hol)
  refine wpAny_pyIter_list hls ?_
  have W := Walks.list (prog := prog) (w := w) hh s.heap.objs.size a9 hne vs.toArray
  have hlen : vs.toArray.size = vs.length := by simp
  rw [hlen] at W
  have keepF : ∀ h' : Heap, (∀ b o, s.heap.get? b = some o → h'.get? b = some o) → Fr h₀ L h' m ∧ News h₀ L h' news := fun h' k =>
    ⟨⟨F.ns.keeps k, fun b o e => k b o (F.keep b o e), F.above⟩, fun p hp => ⟨k _ _ (N p hp).1, (N p hp).2⟩⟩
  have old : ∀ h' : Heap, (∀ b o, b ∉ [s.heap.objs.size] → (s.heap.push { cls := .type "list_iterator", dict := none, data := .fields #[.ref a9, .int 0 0] }).get? b = some o → h'.get? b = some o) → ∀ b o, s.heap.get? b = some o → h'.get? b = some o := fun h' k b o e =>
    k b o (fun hb => absurd (Heap.lt_size e) ((List.mem_singleton.mp hb) ▸ Nat.lt_irrefl _)) (Heap.get?_push_of_some _ e)
  refine ⟨_, _, _, vs.length, _, _, rfl, W, by rw [sizeLine_eq]; omega, ?_, ⟨⟨_, Heap.get?_push_size _ rfl, rfl, rfl⟩, hls.at fun o e => Heap.get?_push_of_some _ e⟩, ?_, ⟨?_, ?_⟩, ?_⟩
  · rintro i h ⟨⟨o, ho, _⟩, _⟩ b hb
    rw [List.mem_singleton.mp hb]
    exact ⟨o, ho⟩
  · intro b hb
    show b < (s.heap.push _).objs.size
    rw [Heap.size_push]
    rcases List.mem_cons.mp hb with rfl | hb
    · exact Nat.lt_succ_self _
    · rw [List.mem_singleton.mp hb]
      exact Nat.lt_succ_of_lt (Heap.lt_size hol)
  · intro C i v s₃ m₃ E' _ _ _ _ _ _
    exact wpAny_pure ⟨rfl, s₃.heap, s₃.toks, rfl, fun _ _ e => e⟩
  · intro C i v s₃ m₃ E' _ hP _ hn hx' hk _
    have hP' : vs[i]? = some v := by simpa using hP
    obtain ⟨x, tx, rfl, hgx⟩ := hg v (List.mem_of_getElem? hP')
    obtain ⟨F₃, N₃⟩ := keepF s₃.heap (old s₃.heap hk)
    exact elts C x tx s₃ m₃ E' hgx hn hx' F₃ N₃
  · intro D h' tk ys us hD _ hpl hul huP hpair _ _ hk
    have hvs : us = vs := by
      apply List.ext_getElem? 
      intro j
      by_cases hj : j < us.length
      · have := huP j us[j] (List.getElem?_eq_getElem hj)
        rw [List.getElem?_eq_getElem hj]
        have h2 : vs[j]? = some us[j] := by simpa using this
        exact h2.symm
      · rw [List.getElem?_eq_none (by omega), List.getElem?_eq_none (by omega)]
    subst hvs
    rw [List.filter_eq_self.mpr (fun _ _ => rfl)] at hpair
    obtain ⟨led, hl1, hl2⟩ := rows_of hpair
    have kk := old h' hk
    obtain ⟨F', N'⟩ := keepF h' kk
    obtain ⟨nD, hDo⟩ := hpl
    have notL : ∀ b, (s.heap.push { cls := .type "list_iterator", dict := none, data := .fields #[.ref a9, .int 0 0] }).get? b = none → b ≠ L ∧ h₀.get? b = none := by
      intro b hb
      constructor
      · rintro rfl
        obtain ⟨o, es, ep, ho, _⟩ := F.ns
        rw [Heap.get?_push_of_some _ ho] at hb
        cases hb
      · cases e : h₀.get? b with
        | none => rfl
        | some o => rw [Heap.get?_push_of_some _ (F.keep _ _ e)] at hb; cases hb
    refine done D ys.toList nD led h' tk F' ?_ hl2
    intro p hp
    rcases List.mem_cons.mp hp with rfl | hp
    · exact ⟨hDo, notL D hD⟩
    · rcases List.mem_append.mp hp with hp | hp
      · exact N' p hp
      · exact ⟨(hl1 p hp).1, notL p.1 (hl1 p hp).2⟩
end
end
end Mine

namespace Mine
section
open PySem PySem.W PyProof.Rows PySem.Calls
set_option maxRecDepth 100000
set_option maxHeartbeats 8000000

theorem ranks_elt {w : World} {mean : ExcName → Option Value} {mg mb : Str → Option Value} {x : Str} {q : Bool} {t tx : Tok}
    {dp un : Nat} {gd : Option (List Code)} {cn : Str} {cs : Scope} {a : Addr} {ccd : Value} {cl : List (Str × Addr)} {outer : List Env} {A₀ : Around} {base h₀ : Heap} {L : Addr} {m : Str → Option Value} {s s₃ : Shared} {E : Value → Shared → Prop} {k : Nat} (hs : s = { s₃ with toks := k })
    (B : Below A₀ base outer h₀) (F : Fr h₀ L s.heap m) (X : (hd.heap_39 w.params).In h₀) (T : TopQ mean mg mb h₀) (hk : cs.kind = .function) (hd : dp + 20 < recursionLimit) (hu : un + 200 < cLine) (hx : GoodS x) :
    wpAny (model Challenge.rw_qh0084_01.row.prog w) (ktrTop dp un gd cn cs L a ccd cl outer) (call (.ref 138) [.str x t, .bool q]) (fun y s₄ => (∃ T its, y = .ref T ∧ s₃.heap.get? T = none ∧ s₄.heap.IsList T its ∧ RowG q (.str x tx) its) ∧ Keeps s₃ s₄) E s := by
  subst hs
  refine ct_ranks w mean mg mb x t q (by have := hx.1; omega) (fun c hc => (hx.2 c hc).1) ⟨trivial⟩ _ _ _ _ _ _ _ _ _ _ _ _ _ _ _ _ _ B F X T hk hd hu fun r h' tk' st hp => ?_
  obtain ⟨a', vs, n, rfl, h1, h2, h3⟩ := hp
  exact ⟨⟨a', vs.toArray, rfl, h1, ⟨_, h2, rfl, n, rfl⟩, x, tx, vs, rfl, rfl, h3⟩, h', tk', rfl, st⟩
section
variable {prog : Program} {w : World} {A : Around} {E : Value → Shared → Prop} {s : Shared} {env : Env} {C : Addr} {m₃ : Str → Option Value} {scope : Scope} {cl : List (Str × Addr)} {pos : Pos} {v : Value} {Q : Value → Shared → Prop}
theorem ld_elt {M : Model} (hn : s.heap.Ns C m₃) (hx : m₃ (Str.ofString "text") = some v) (h : Q v s)
    (hk : (compEnvC scope cl C env).scope.kind = .function) (hl : (compEnvC scope cl C env).kindOf (Str.ofString "text") = some .local) :
    wpAny M A (eval (.Name (Str.ofString "text") pos) (compEnvC scope cl C env)) Q E s := ldVarK hn hx h hk hl (by decide)
end
def txt (vs : List Value) (k : Nat) : Str := match vs[k]? with | some (.str x _) => x | _ => Str.empty
theorem txt_at {vs : List Value} {K : Nat} (hg : ∀ v ∈ vs, GoodT K v) {k : Nat} (hk : k < vs.length) : ∃ t, vs[k]? = some (.str (txt vs k) t) ∧ ∀ c ∈ (txt vs k).cps.toList, c < 0x110000 := by
  obtain ⟨x, t, e, _, ho⟩ := hg _ (List.getElem_mem hk)
  have e1 : vs[k]? = some (.str x t) := by rw [List.getElem?_eq_getElem hk, e]
  have e2 : txt vs k = x := by unfold txt; rw [e1]
  rw [e2]
  exact ⟨t, e1, fun c hc => (ho c hc).1⟩
/-- a turn of a loop that keeps all, ended -/
def End2 (h₀ : Heap) (L : Addr) (led : List (Addr × Obj)) (s : Shared) (x : Str) (stored : List Str) (m₀ : Str → Option Value) (Q : Flow → Shared → Prop) (f : Flow) (s₂ : Shared) : Prop :=
  match f with
  | .ret v => Q (.ret v) s₂
  | .brk => Q .next s₂
  | _ => ∃ h' tk m', s₂ = { s with heap := h', toks := tk } ∧ Fr h₀ L h' m' ∧ News h₀ L h' led ∧ ∀ z, z ≠ x → stored.contains z = false → m' z = m₀ z
section
variable {prog : Program} {w : World} {A : Around} {E : Value → Shared → Prop} {Q : Flow → Shared → Prop} {s : Shared} {env : Env} {h₀ : Heap}
theorem range_loop {body : List Stmt} {m₀ : Str → Option Value} {x : Str} {r : Addr} {nm : Nat} {t₀ u₀ v₀ : Tok} {news : List (Addr × Obj)} (stored : List Str) (hh : A.handled = none) (hr : IsRange s.heap r 0 (nm : Int) 1 t₀ u₀ v₀) (hsm : nm ≤ 17)
    (F : Fr h₀ env.locals s.heap m₀) (N : News h₀ env.locals s.heap news)
    (turn : ∀ (k : Nat) (t : Tok) (u : Str → Option Value) h tk own, k < nm → Fr h₀ env.locals h (fun y => if y = x then some (.int (k : Int) t) else if stored.contains y then u y else m₀ y) → News h₀ env.locals h (news ++ own) →
      wpAny (model prog w) A (execs body env) (End2 h₀ env.locals (news ++ own) { s with heap := h, toks := tk } x stored m₀ Q) E { s with heap := h, toks := tk })
    (done : ∀ (u : Str → Option Value) h tk, Fr h₀ env.locals h (fun y => if y = x then u y else if stored.contains y then u y else m₀ y) → News h₀ env.locals h news → Q .next { s with heap := h, toks := tk }) :
    wpAny (model prog w) A (pyIter (.ref r)) (fun it s₂ => LoopAtV prog w A h₀ env x body Q E it s₂) E s := by
  refine kst_range (σ := Unit) (n := nm) (fun _ => news) (fun _ => []) (fun _ => True) stored (fun _ _ => True) () hh hr ?_ ?_ F N trivial (fun _ hp => by cases hp) trivial ?_ ?_
  · exact small_one (by omega) (by omega) (by omega) (by omega)
  · exact rangeSize_nat _ _
  · rintro ⟨⟩ pre k t u h tk own hk hlt hoff _ _ F' N'
    have e : k = ((pre.length : Nat) : Int) := by omega
    subst e
    refine wpAny_mono (turn pre.length t u h tk own hlt F' N') (fun f s₂ p => ?_) fun _ _ y => y
    have fin : (∃ h' tk' m', s₂ = { { s with heap := h, toks := tk } with heap := h', toks := tk' } ∧ Fr h₀ env.locals h' m' ∧ News h₀ env.locals h' (news ++ own) ∧ ∀ z, z ≠ x → stored.contains z = false → m' z = m₀ z) →
        InvEndN h₀ env.locals (KstS (σ := Unit) (fun _ => news) (fun _ => []) (fun _ => True) x stored m₀ (fun _ _ => True) (pre ++ [((pre.length : Nat) : Int)])) own (news.map (·.1)) { s with heap := h, toks := tk } s₂ := by
      rintro ⟨h', tk', m', rfl, F1, N1, hr⟩
      exact kst_end () F1 N1 (fun p hp => List.mem_append.mpr (.inl hp)) (fun p hp => List.mem_append.mpr (.inr hp)) rfl trivial (fun _ hp => by cases hp) (fun z h1 _ h3 => hr z h1 h3) trivial
    cases f with
    | ret v => exact p
    | brk => exact p
    | next => exact fin p
    | cont => exact fin p
  · rintro ⟨⟩ u h tk _ _ F' N'
    exact done u h tk F' N'
theorem end2_intro {L : Addr} {led led' : List (Addr × Obj)} {x : Str} {stored : List Str} {h' : Heap} {tk : Nat} {m₀ m' : Str → Option Value} (F : Fr h₀ L h' m') (N : News h₀ L h' led') (hn : ∀ p ∈ led, p ∈ led') (hr : ∀ z, z ≠ x → stored.contains z = false → m' z = m₀ z) :
    End2 h₀ L led s x stored m₀ Q .next { s with heap := h', toks := tk } := ⟨h', tk, m', rfl, F, fun p hp => N p (hn p hp), hr⟩
end
section
variable {prog : Program} {w : World} {A : Around} {E : Value → Shared → Prop} {s : Shared} {h₀ : Heap} {L : Addr} {news : List (Addr × Obj)} {vs ws rs : List Value} {n k j K : Nat} {q : Bool} {value slice : Expr} {t u : Tok} {Q : Value → Shared → Prop} {lw : Addr} {led : List (Addr × Obj)}
theorem len_V (N : News h₀ L s.heap news) (hm : (lw, listOf vs.toArray n) ∈ news) (hk : vs.length ≤ 17) (h : Q (.int (vs.length : Int) (s.toks + 1)) { s with toks := s.toks + 1 + 1 }) : wpAny (model prog w) A (call (.builtin "len") [.ref lw]) Q E s := by
  have hL : s.heap.IsList lw vs.toArray := ⟨_, (N _ hm).1, rfl, n, rfl⟩
  exact len_list hL (by rw [List.size_toArray]; omega) (by rw [List.size_toArray]; exact h)
theorem item_W (N : News h₀ L s.heap news) (hm : (lw, listOf ws.toArray n) ∈ news) (hW : Writs q vs ws) (hg : ∀ v ∈ vs, GoodT K v) (hk : k < vs.length) (hv : vs.length ≤ 17) (h : ∀ u, Q (.bytes (writ q (txt vs k).cps.toList).toArray u) s)
    (hs : subscripted slice false (.ref lw) (.int (k : Int) t) = operate [.ref lw, .int (k : Int) t] (getItem (.ref lw) (.int (k : Int) t)) := by with_unfolding_all rfl) :
    wpAny (model prog w) A (subscriptTail value slice (.ref lw) (.int (k : Int) t)) Q E s := by
  have hL : s.heap.IsList lw ws.toArray := ⟨_, (N _ hm).1, rfl, n, rfl⟩
  obtain ⟨tx, e, _⟩ := txt_at hg hk
  obtain ⟨u, e2⟩ := hW.2 k _ _ e
  refine tail_any hL.typeIs slot_list_getitem.lookup (wpAny_getItem_list hL (by omega) (by omega) ?_ (h u)) hs
  rw [Int.toNat_natCast]
  simpa using e2
theorem item_R (N : News h₀ L s.heap news) (hm : (lw, listOf rs.toArray n) ∈ news) (hR : RowsIn q led vs rs) (hg : ∀ v ∈ vs, GoodT K v) (hk : k < vs.length) (hv : vs.length ≤ 17) (hl : ∀ p ∈ led, p ∈ news)
    (h : ∀ T us, s.heap.IsList T (us : List Value).toArray → IntsAre us (rks q (txt vs k).cps.toList) → Q (.ref T) s)
    (hs : subscripted slice false (.ref lw) (.int (k : Int) t) = operate [.ref lw, .int (k : Int) t] (getItem (.ref lw) (.int (k : Int) t)) := by with_unfolding_all rfl) :
    wpAny (model prog w) A (subscriptTail value slice (.ref lw) (.int (k : Int) t)) Q E s := by
  have hL : s.heap.IsList lw rs.toArray := ⟨_, (N _ hm).1, rfl, n, rfl⟩
  obtain ⟨tx, e, _⟩ := txt_at hg hk
  obtain ⟨T, o, us, n', e2, e3, e4, e5, e6⟩ := hR.2 k _ _ e
  refine tail_any hL.typeIs slot_list_getitem.lookup (wpAny_getItem_list hL (by omega) (by omega) ?_ (h T us ⟨o, (N _ (hl _ e3)).1, e4, n', e5⟩ e6)) hs
  rw [Int.toNat_natCast]
  simpa using e2
theorem ne_orders (hg : ∀ v ∈ vs, GoodT K v) (hk : k < vs.length) (hj : j < vs.length) (h : Q (.bool false) s) :
    wpAny (model prog w) A (compareOp .NotEq (.bool (Builtin.Bytes.order (writ q (txt vs k).cps.toList).toArray.toList (writ q (txt vs j).cps.toList).toArray.toList == .lt)) (.bool (ltI (rks q (txt vs k).cps.toList) (rks q (txt vs j).cps.toList)))) Q E s := by
  obtain ⟨_, _, h1⟩ := txt_at hg hk
  obtain ⟨_, _, h2⟩ := txt_at hg hj
  have e := orders_agree q _ _ h1 h2
  show wpAny (model prog w) A (compareOp .NotEq (.bool (Builtin.Bytes.order (writ q (txt vs k).cps.toList) (writ q (txt vs j).cps.toList) == .lt)) _) Q E s
  rw [e]
  refine ne_bool ?_
  simpa using h
end
end
end Mine

namespace Mine
section
open PySem PySem.W PyProof.Rows PySem.Calls
set_option maxRecDepth 100000
set_option maxHeartbeats 8000000

section
variable {prog : Program} {w : World} {A : Around} {E : Value → Shared → Prop} {env : Env}
theorem assign_compO {s : Shared} {elt iter : Expr} {x y : Str} {px py : Pos} {ifs : List Expr} {scope : Scope} {cl : List (Str × Addr)} {pos spos : Pos} {Q : Flow → Shared → Prop}
    (p : Value → Bool) (G : Value → Array Value → Prop)
    (hsw : swapsWith (.ListComp elt [⟨.Name x px, iter, ifs, 0⟩] scope pos) (some (.Name y py)) spos.line env = pure true)
    (hclos : closureFor scope env = pure cl) (hcell : ∀ z ∈ scope.names, z.2 ≠ .cell) (hkind : scope.kind = .function)
    (hnames : ∀ z ∈ scope.names, z.2 = .local → scope.names.lookup z.1 = some .local) (hx : scope.names.lookup x = some .local)
    (hy : env.kindOf y = some .local) (hp : (env.scope.kind == .class || (env.scope.kind == .module && env.locals != env.globals)) = false)
    (h : wpAny (model prog w) A (eval iter env) (fun xv s₁ => wpAny (model prog w) A (pyIter xv) (fun it s₂ => ∃ I fp wr n P St m, it = .ref I ∧ Walks prog w A I fp wr n P St ∧ n ≤ sizeLine ∧ (∀ i h, St i h → ∀ b ∈ wr, ∃ o, h.get? b = some o) ∧ St 0 s₂.heap ∧ (∀ b ∈ fp, b < s₂.heap.objs.size) ∧
      env.locals ∉ wr ∧ s₂.heap.Ns env.locals m ∧ QuietOnCO prog w A env scope cl x ifs elt wr P p G s₂ ∧
      (∀ D h' tk ys (vs : List Value), s₂.heap.get? D = none → h'.PlainList D ys → vs.length = n → (∀ j v, vs[j]? = some v → P j v) → Paired (LstIs s₂.heap G h') (vs.filter p) ys.toList →
        h'.Ns env.locals (fun z => if z = y then some (.ref D) else m z) → (∀ b o, b ≠ env.locals → b ∉ wr → s₂.heap.get? b = some o → h'.get? b = some o) → Q .next { s₂ with heap := h', toks := tk })) E s₁) E s)
    (hs : ∀ x, foldedSetIterable iter env x = pure x) :
    wpAny (model prog w) A (exec (.Assign [.Name y py] (.ListComp elt [⟨.Name x px, iter, ifs, 0⟩] scope pos) spos) env) Q E s := by
  rw [exec_Assign_Name_used _ _ _ _ hsw]
  refine wpAny_bind (wpAny_standAt (wpAny_bind ?_))
  show wpAny _ A (do let _ ← comprehension (.ListComp elt [⟨.Name x px, iter, ifs, 0⟩] scope pos) scope env _ (newList []) false (eval iter env) (some (assign (.Name y py) env))) _ _ s
  refine wpAny_bind (wpAny_mono (wpAny_comprehension_free (use := some (assign (.Name y py) env)) (Q := fun _ s' => Q .next s') rfl hs hclos hkind hnames
    (wpAny_mono h (fun xv s₁ h₁ => wpAny_mono h₁ (fun it s₂ h₂ => ?_) fun _ _ e => e) fun _ _ e => e)) (fun _ s' hq => wpAny_pure (wpAny_pure hq)) fun _ _ e => e)
  obtain ⟨I, fp, wr, n, P, St, m, rfl, W, hsz, hlive, hst, hfp, hLf, hn, hq, hQ⟩ := h₂
  refine comp_block_walkCO (RR := fun acc C => compPost (model prog w) A E (some (assign (.Name y py) env)) (fun _ s' => Q .next s') acc C) W hsz p G hlive hcell hkind hx hst hfp hq ?_
  intro D C h' tk m' ys vs hD hC hDC hnC hlD hplD hlen hP hF _ hk
  have hLC : env.locals ≠ C := by rintro rfl; obtain ⟨o, _, _, ho, _⟩ := hn; rw [hC] at ho; cases ho
  have hLD : env.locals ≠ D := by rintro rfl; obtain ⟨o, _, _, ho, _⟩ := hn; rw [hD] at ho; cases ho
  show wpAny _ A (assign (.Name y py) env (.ref D)) _ _ _
  refine wpAny_assign_Name (wpAny_storeName_local hy (hn.at' fun o e => hk _ o hLf e) (fun h₂ hn₂ hs₂ => ?_) hp)
  refine ⟨m', hnC.sameBut hs₂ (Ne.symm hLC), fun h₃ hs₃ => ?_⟩
  refine hQ D h₃ _ ys vs hD ((hplD.extBut hs₂.extBut (Ne.symm hLD)).extBut hs₃.extBut hDC) hlen hP ?_ (hn₂.sameBut hs₃ hLC) fun b o hbL hbf e =>
    hs₃.extBut b o (by rintro rfl; rw [hC] at e; cases e) (hs₂.extBut b o hbL (hk b o hbf e))
  refine hF.mono fun _ _ hy9 => ?_
  obtain ⟨T, its, rfl, h1, hTC, _, _, hlT, hG⟩ := hy9
  have hTL : T ≠ env.locals := by rintro rfl; obtain ⟨o, _, _, ho, _⟩ := hn; rw [h1] at ho; cases ho
  exact ⟨T, its, rfl, h1, (hlT.extBut hs₂.extBut hTL).extBut hs₃.extBut hTC, hG⟩
end
section
variable {prog : Program} {w : World} {A : Around} {E : Value → Shared → Prop} {s : Shared} {env : Env} {h₀ : Heap} {m : Str → Option Value} {news : List (Addr × Obj)} {Q : Flow → Shared → Prop}
theorem law_assign {elt iter : Expr} {px pos py spos : Pos} {scope : Scope} {cl : List (Str × Addr)} {q : Bool} {a9 : Addr} {vs : List Value} {n9 : Nat} (_hq : Meant q) (hh : A.handled = none)
    (hsw : swapsWith (.ListComp elt [⟨.Name (Str.ofString "text") px, iter, [], 0⟩] scope pos) (some (.Name (Str.ofString "rows") py)) spos.line env = pure true)
    (hclos : closureFor scope env = pure cl) (hcell : ∀ y ∈ scope.names, y.2 ≠ .cell) (hkind : scope.kind = .function)
    (hnames : ∀ y ∈ scope.names, y.2 = .local → scope.names.lookup y.1 = some .local) (hx : scope.names.lookup (Str.ofString "text") = some .local)
    (hy : env.kindOf (Str.ofString "rows") = some .local) (hp : (env.scope.kind == .class || (env.scope.kind == .module && env.locals != env.globals)) = false)
    (hit : wpAny (model prog w) A (eval iter env) (fun xv s₁ => xv = .ref a9 ∧ s₁ = s) E s)
    (hs : ∀ x, foldedSetIterable iter env x = pure x)
    (hm : (a9, listOf vs.toArray n9) ∈ news) (hg : ∀ v ∈ vs, GoodT 11 v) (hv17 : vs.length ≤ 17) (F : Fr h₀ env.locals s.heap m) (N : News h₀ env.locals s.heap news)
    (elts : ∀ (C : Addr) (x : Str) (tx : Tok) (s₃ : Shared) (m₃ : Str → Option Value) (E' : Value → Shared → Prop), GoodS x → s₃.heap.Ns C m₃ → m₃ (Str.ofString "text") = some (.str x tx) → Fr h₀ env.locals s₃.heap m → News h₀ env.locals s₃.heap news →
      wpAny (model prog w) A (eval elt (compEnvC scope cl C env)) (fun y s₄ => (∃ T its, y = .ref T ∧ s₃.heap.get? T = none ∧ s₄.heap.IsList T its ∧ RowG q (.str x tx) its) ∧ Keeps s₃ s₄) E' s₃)
    (done : ∀ (D : Addr) (rs : List Value) (nD : Nat) (led : List (Addr × Obj)) (h' : Heap) (tk : Nat), Fr h₀ env.locals h' (fun z => if z = Str.ofString "rows" then some (.ref D) else m z) → News h₀ env.locals h' ((D, listOf rs.toArray nD) :: (news ++ led)) → RowsIn q led vs rs → Q .next { s with heap := h', toks := tk }) :
    wpAny (model prog w) A (exec (.Assign [.Name (Str.ofString "rows") py] (.ListComp elt [⟨.Name (Str.ofString "text") px, iter, [], 0⟩] scope pos) spos) env) Q E s := by
  refine assign_compO (fun _ => true) (RowG q) hsw hclos hcell hkind hnames hx hy hp (wpAny_mono hit (fun xv s₁ h₁ => ?_) fun _ _ e => e) hs
  obtain ⟨rfl, e2⟩ := h₁
  rw [e2]
  have hol : s.heap.get? a9 = some (listOf vs.toArray n9) := (N _ hm).1
  have hls : s.heap.IsList a9 vs.toArray := ⟨_, hol, rfl, n9, rfl⟩
  have hne : a9 ≠ s.heap.objs.size := Nat.ne_of_lt (Heap.lt_size hol)
  refine wpAny_pyIter_list hls ?_
  have W := Walks.list (prog := prog) (w := w) hh s.heap.objs.size a9 hne vs.toArray
  have hlen : vs.toArray.size = vs.length := by simp
  rw [hlen] at W
  have keepF : ∀ h' : Heap, (∀ b o, s.heap.get? b = some o → h'.get? b = some o) → Fr h₀ env.locals h' m ∧ News h₀ env.locals h' news := fun h' k =>
    ⟨⟨F.ns.keeps k, fun b o e => k b o (F.keep b o e), F.above⟩, fun p hp => ⟨k _ _ (N p hp).1, (N p hp).2⟩⟩
  have old : ∀ h' : Heap, (∀ b o, b ∉ [s.heap.objs.size] → (s.heap.push { cls := .type "list_iterator", dict := none, data := .fields #[.ref a9, .int 0 0] }).get? b = some o → h'.get? b = some o) → ∀ b o, s.heap.get? b = some o → h'.get? b = some o := fun h' k b o e =>
    k b o (fun hb => absurd (Heap.lt_size e) ((List.mem_singleton.mp hb) ▸ Nat.lt_irrefl _)) (Heap.get?_push_of_some _ e)
  refine ⟨_, _, _, vs.length, _, _, m, rfl, W, by rw [sizeLine_eq]; omega, ?_, ⟨⟨_, Heap.get?_push_size _ rfl, rfl, rfl⟩, hls.at fun o e => Heap.get?_push_of_some _ e⟩, ?_, ?_, (F.push _).ns, ⟨?_, ?_⟩, ?_⟩
  · rintro i h ⟨⟨o, ho, _⟩, _⟩ b hb
    rw [List.mem_singleton.mp hb]
    exact ⟨o, ho⟩
  · intro b hb
    show b < (s.heap.push _).objs.size
    rw [Heap.size_push]
    rcases List.mem_cons.mp hb with rfl | hb
    · exact Nat.lt_succ_self _
    · rw [List.mem_singleton.mp hb]
      exact Nat.lt_succ_of_lt (Heap.lt_size hol)
  · intro hm9
    exact absurd F.ns.lt ((List.mem_singleton.mp hm9) ▸ Nat.lt_irrefl _)
  · intro C i v s₃ m₃ E' _ _ _ _ _ _
    exact wpAny_pure ⟨rfl, s₃.heap, s₃.toks, rfl, fun _ _ e => e⟩
  · intro C i v s₃ m₃ E' _ hP _ hn hx' hk _
    have hP' : vs[i]? = some v := by simpa using hP
    obtain ⟨x, tx, rfl, hgx⟩ := hg v (List.mem_of_getElem? hP')
    obtain ⟨F₃, N₃⟩ := keepF s₃.heap (old s₃.heap hk)
    exact elts C x tx s₃ m₃ E' hgx hn hx' F₃ N₃
  · intro D h' tk ys us hD hpl hul huP hpair hns hk
    have hvs : us = vs := by
      apply List.ext_getElem? 
      intro j
      by_cases hj : j < us.length
      · have := huP j us[j] (List.getElem?_eq_getElem hj)
        rw [List.getElem?_eq_getElem hj]
        have h2 : vs[j]? = some us[j] := by simpa using this
        exact h2.symm
      · rw [List.getElem?_eq_none (by omega), List.getElem?_eq_none (by omega)]
    subst hvs
    rw [List.filter_eq_self.mpr (fun _ _ => rfl)] at hpair
    obtain ⟨led, hl1, hl2⟩ := rows_of hpair
    have kk : ∀ b o, b ≠ env.locals → s.heap.get? b = some o → h'.get? b = some o := fun b o hb e =>
      hk b o hb (fun hb => absurd (Heap.lt_size e) ((List.mem_singleton.mp hb) ▸ Nat.lt_irrefl _)) (Heap.get?_push_of_some _ e)
    have F' : Fr h₀ env.locals h' (fun z => if z = Str.ofString "rows" then some (.ref D) else m z) :=
      ⟨hns, fun b o e => kk b o (Nat.ne_of_lt (Nat.lt_of_lt_of_le (Heap.lt_size e) F.above)) (F.keep b o e), F.above⟩
    have N' : News h₀ env.locals h' news := fun p hp => ⟨kk _ _ (N p hp).2.1 (N p hp).1, (N p hp).2⟩
    obtain ⟨nD, hDo⟩ := hpl
    have notL : ∀ b, (s.heap.push { cls := .type "list_iterator", dict := none, data := .fields #[.ref a9, .int 0 0] }).get? b = none → b ≠ env.locals ∧ h₀.get? b = none := by
      intro b hb
      constructor
      · rintro rfl
        obtain ⟨o, es, ep, ho, _⟩ := F.ns
        rw [Heap.get?_push_of_some _ ho] at hb
        cases hb
      · cases e : h₀.get? b with
        | none => rfl
        | some o => rw [Heap.get?_push_of_some _ (F.keep _ _ e)] at hb; cases hb
    refine done D ys.toList nD led h' tk F' ?_ hl2
    intro p hp
    rcases List.mem_cons.mp hp with rfl | hp
    · exact ⟨hDo, notL D hD⟩
    · rcases List.mem_append.mp hp with hp | hp
      · exact N' p hp
      · exact ⟨(hl1 p hp).1, notL p.1 (hl1 p hp).2⟩
end
end
end Mine

namespace Mine
section
open PySem PySem.W PyProof.Rows PySem.Calls
set_option maxRecDepth 100000
set_option maxHeartbeats 8000000

theorem news_cut6 {h₀ h : Heap} {L : Addr} {p1 p2 p3 p4 p5 p6 : Addr × Obj} {led : List (Addr × Obj)} (N : News h₀ L h (p1 :: p2 :: p3 :: p4 :: p5 :: p6 :: led)) : News h₀ L h [p3, p4, p5, p6] := by
  intro p hp
  refine N p ?_
  simp only [List.mem_cons, List.not_mem_nil, or_false] at hp ⊢
  rcases hp with h | h | h | h <;> simp [h]
section
local macro_rules | `(tactic| walk_at "call ref") => `(tactic| (k_here; (with_reducible show wpAny _ _ (call (Value.ref 131) _) _ _ _); k_dflt (refine' texts_use ?k1 ?k2 ?k3 ?k4 ?k5 ?kK ?kd ?ku ?kl ?kI ?kn ?_; (case k2 => k_asm); (case k4 => k_asm); (case k3 => k_asm); (case k5 => k_asm); (case k1 => k_asm); (case kK => exact rfl); (case kd => ktr_room); (case ku => ktr_units); (case kl => assumption); (case kI => assumption); (case kn => omega); intro a9 vs9 n9 h9 tk9 F9 N9 ne9 hv9 hg9; (simp only [List.forall_mem_cons, List.not_mem_nil, false_implies, implies_true, and_true, ne_eq] at ne9); (try dsimp only); (try k_fold))))
local macro_rules | `(tactic| walk_at "call ref") => `(tactic| (k_here; (with_reducible show wpAny _ _ (call (Value.ref 46) _) _ _ _); k_dflt (refine' pc_use (ct_escS _ _ _ _ _ _ _ ?kg) ?k1 ?k2 ?k3 ?k4 ?k5 ?kK ?kd ?ku ?_; (case k2 => k_asm); (case k4 => k_asm); (case k3 => k_asm); (case k5 => k_asm); (case k1 => k_asm); (case kK => first | exact rfl | assumption); (case kd => ktr_room); (case ku => ktr_units); (case kg => assumption); (intro r9 h9 tk9 F9 N9 St9 P9); clear St9; (obtain ⟨t9, e9⟩ := P9); subst e9; (try dsimp only); (try k_fold))))
local macro_rules | `(tactic| walk_at "call ref") => `(tactic| (k_here; (with_reducible show wpAny _ _ (call (Value.ref 116) _) _ _ _); k_dflt (refine' pc_use (ct_encS _ _ _ _ _ _ _ ?kg) ?k1 ?k2 ?k3 ?k4 ?k5 ?kK ?kd ?ku ?_; (case k2 => k_asm); (case k4 => k_asm); (case k3 => k_asm); (case k5 => k_asm); (case k1 => k_asm); (case kK => first | exact rfl | assumption); (case kd => ktr_room); (case ku => ktr_units); (case kg => assumption); (intro r9 h9 tk9 F9 N9 St9 P9); clear St9; (obtain ⟨t9, e9⟩ := P9); subst e9; (try dsimp only); (try k_fold))))
local macro_rules | `(tactic| walk_at "call ref") => `(tactic| (k_here; (with_reducible show wpAny _ _ (call (Value.ref 124) _) _ _ _); k_dflt (refine' pc_use (ct_decS _ _ _ _ _ _ _ ?kg) ?k1 ?k2 ?k3 ?k4 ?k5 ?kK ?kd ?ku ?_; (case k2 => k_asm); (case k4 => k_asm); (case k3 => k_asm); (case k5 => k_asm); (case k1 => k_asm); (case kK => first | exact rfl | assumption); (case kd => ktr_room); (case ku => ktr_units); (case kg => assumption); (intro r9 h9 tk9 F9 N9 St9 P9); clear St9; (obtain ⟨t9, e9⟩ := P9); subst e9; (try dsimp only); (try k_fold))))
local macro_rules | `(tactic| walk_at "call ref") => `(tactic| (k_here; (with_reducible show wpAny _ _ (call (Value.ref 145) _) _ _ _); k_dflt (refine' pc_use (ct_backesc _ _ _ _ _ _ _ ?kg) ?k1 ?k2 ?k3 ?k4 ?k5 ?kK ?kd ?ku ?_; (case k2 => k_asm); (case k4 => k_asm); (case k3 => k_asm); (case k5 => k_asm); (case k1 => k_asm); (case kK => first | exact rfl | assumption); (case kd => ktr_room); (case ku => ktr_units); (case kg => assumption); (intro r9 h9 tk9 F9 N9 St9 P9); clear St9; (obtain ⟨t9, e9⟩ := P9); subst e9; (try dsimp only); (try k_fold))))
local macro_rules | `(tactic| walk_at "getMethod str") => `(tactic| (with_reducible refine meth_enc ?_))
local macro_rules | `(tactic| walk_at "call builtin:str.encode") => `(tactic| (refine enc_esc (by assumption) ?_))
local macro_rules | `(tactic| walk_at "call builtin:bytes.decode") => `(tactic| (refine dec_esc (by assumption) ?_; intro t8 k8))
local macro_rules | `(tactic| walk_at "compareOp NotEq str str") => `(tactic| (with_reducible refine ne_same ?_))
local macro_rules | `(tactic| walk_at "exec For Name Name cons nil") => `(tactic| (k_here; (rename Fr _ _ _ _ => lF'); (with_unfolding_all refine' For_invVF lF' ?k1 ?k2 ?_; (case k1 => exact rfl); (case k2 => exact rfl); k_whole)))
local macro_rules | `(tactic| walk_at "pyIter ref") => `(tactic| (k_here; (rename Fr _ _ _ _ => lF'); (rename News _ _ _ _ => lN'); (first | ((rename _ = Data.cell (some (Value.bool false)) => hcT); (have mT := (Meant.mk trivial : Meant false)); (with_unfolding_all refine law_loop1 mT rfl (by k_mem) (by assumption) lF' lN' ?_ ?_)) | ((rename _ = Data.cell (some (Value.bool true)) => hcT); (have mT := (Meant.mk trivial : Meant true)); (with_unfolding_all refine law_loop1 mT rfl (by k_mem) (by assumption) lF' lN' ?_ ?_))); clear lF' lN' mT; (rotate_left; (intro ws n u h tk hW F' N'; (try dsimp only); (try k_fold)); rotate_right; (intro x tx ws n u h tk own hx hv hoff F' N'; (simp only [List.map_cons, List.map_nil] at hoff); (simp only [List.cons_append, List.nil_append] at N'); (try dsimp only); (try k_fold)))))
local macro_rules | `(tactic| walk_at "exec Assign cons ListComp") => `(tactic| (k_here; ((rename Fr _ _ _ _ => lF'); (rename News _ _ _ _ => lN'); (first | ((rename _ = Data.cell (some (Value.bool false)) => hcT); (have mT := (Meant.mk trivial : Meant false)); (with_unfolding_all refine' law_assign mT rfl ?c0 ?c1 ?c2 ?c3 ?c4 ?c5 ?cy ?cp ?c6 ?c7 ?c8 ?c9 ?c10 lF' lN' ?_ ?_)) | ((rename _ = Data.cell (some (Value.bool true)) => hcT); (have mT := (Meant.mk trivial : Meant true)); (with_unfolding_all refine' law_assign mT rfl ?c0 ?c1 ?c2 ?c3 ?c4 ?c5 ?cy ?cp ?c6 ?c7 ?c8 ?c9 ?c10 lF' lN' ?_ ?_))); (case c0 => with_unfolding_all rfl); (case c1 => with_unfolding_all rfl); (case c2 => decide); (case c3 => with_unfolding_all rfl); (case c4 => decide); (case c5 => with_unfolding_all rfl); (case cy => with_unfolding_all rfl); (case cp => with_unfolding_all rfl); (case c6 => (k_dflt (refine' nameX_L ?F ?v ?_ ?a ?b; (case F => exact lF'); (case a => rfl); (case b => rfl); (case v => rfl)); exact ⟨rfl, rfl⟩)); (case c7 => (intro _; with_unfolding_all rfl)); (case c9 => assumption); (case c8 => k_dflt k_mem); (case c10 => assumption); clear lF' lN' mT; (rotate_left; (intro D rs nD led h tk F' N' hR; (simp only [List.cons_append, List.nil_append] at N'); (try dsimp only); (try k_fold)); rotate_right; (intro C x tx s₃ m₃ E' hx hn hm F' N'; (obtain ⟨h3, g3, d3, k3, o3⟩ := s₃); (dsimp only at hn F' N'))))))
local macro_rules | `(tactic| walk_at "eval Name") => `(tactic| (k_here; (with_reducible show wpAny _ _ (eval (Expr.Name _ _) (compEnvC _ _ _ _)) _ _ _); k_dflt (refine' ld_elt ?k1 ?k2 ?_ ?a ?b; (case a => rfl); (case b => rfl); (case k1 => assumption); (case k2 => assumption); k_whole)))
local macro_rules | `(tactic| walk_at "call ref") => `(tactic| (k_here; (with_reducible show wpAny _ _ (call (Value.ref 138) _) _ _ _); k_dflt (refine' ranks_elt ?ks ?k1 ?k2 ?k3 ?k5 ?kK ?kd ?ku ?kg; (case k2 => k_asm); (case k3 => k_asm); (case k5 => k_asm); (case k1 => k_asm); (case kK => exact rfl); (case kd => ktr_room); (case ku => ktr_units); (case kg => assumption); (case ks => exact rfl))))
local macro_rules | `(tactic| walk_at "exec For Name Call cons nil") => `(tactic| (k_here; (rename Fr _ _ _ _ => lF'); (with_unfolding_all refine' For_invVF lF' ?k1 ?k2 ?_; (case k1 => exact rfl); (case k2 => exact rfl); k_whole)))
local macro_rules | `(tactic| walk_at "call builtin:len") => `(tactic| (k_here; (with_reducible show wpAny _ _ (call (Value.builtin "len") [Value.ref _]) _ _ _); k_dflt (refine' len_V ?k1 ?k2 ?k3 ?_; (case k1 => k_asm); (case k2 => k_mem); (case k3 => assumption))))
local macro_rules | `(tactic| walk_at "pyIter ref") => `(tactic| (k_here; (rename IsRange _ _ _ _ _ _ _ _ => rgX); (rename Fr _ _ _ _ => lF'); (rename News _ _ _ _ => lN'); (with_unfolding_all refine range_loop [Str.ofString "other"] rfl rgX (by omega) lF' lN' ?_ ?_); clear lF' lN' rgX; (rotate_left; (intro u h tk F' N'; (try dsimp only); (try k_fold)); rotate_right; (intro k t u h tk own hk F' N'; (simp only [List.cons_append, List.nil_append, List.append_assoc] at N'); (try dsimp only); (try k_fold)))))
local macro_rules | `(tactic| walk_at "subscriptTail") => `(tactic| (k_here; (with_reducible show wpAny _ _ (subscriptTail _ _ (Value.ref _) (Value.int _ _)) _ _ _); k_dflt (first | (refine' item_W ?k1 ?k2 ?k3 ?k4 ?k5 ?k6 ?_; (case k1 => k_asm); (case k2 => k_mem); (case k3 => assumption); (case k4 => assumption); (case k5 => omega); (case k6 => assumption); intro t7) | (refine' item_R ?k1 ?k2 ?k3 ?k4 ?k5 ?k6 ?k7 ?_; (case k1 => k_asm); (case k2 => k_mem); (case k3 => assumption); (case k4 => assumption); (case k5 => omega); (case k6 => assumption); (case k7 => (intro p hp; simp [hp])); intro T7 us7 hL7 hI7))))
local macro_rules | `(tactic| walk_at "compareOp Lt bytes bytes") => `(tactic| (refine lt_bytes ?_))
local macro_rules | `(tactic| walk_at "compareOp Lt ref ref") => `(tactic| (k_here; k_dflt (refine' lt_lists ?k1 ?k2 ?k3 ?k4 ?k5 ?_; (case k1 => assumption); (case k2 => assumption); (case k3 => assumption); (case k4 => assumption); (case k5 => (have hcL9 := cLine_is; (try simp only [units_in1, units_deeper, Around.mark_units, units_caller]); omega)))))
local macro_rules | `(tactic| walk_at "compareOp NotEq bool bool") => `(tactic| (k_here; k_dflt (refine' ne_orders ?k1 ?k2 ?k3 ?_; (case k1 => assumption); (case k2 => omega); (case k3 => omega))))
local macro_rules | `(tactic| walk_at "UnrEndW") => `(tactic| ((rename News _ _ _ _ => lN'); (have nC := news_cut6 lN'); (clear lN'); (with_reducible show UnrEndW _ _ _ _ _ _); ktu_end))
local macro_rules | `(tactic| walk_at "End1") => `(tactic| (k_dflt (refine' end1_intro ?k1 ?k2 ?k3; (case k1 => assumption); (case k2 => assumption); (case k3 => (intro z h1 h2; simp [h1, h2])))))
local macro_rules | `(tactic| walk_at "End2") => `(tactic| (k_dflt (refine' end2_intro ?k1 ?k2 ?k3 ?k4; (case k1 => assumption); (case k2 => assumption); (case k3 => (intro p hp; first | exact hp | simpa using hp | simpa [or_assoc] using hp)); (case k4 => (intro z h1 h2; (have h3 := h2); (simp only [List.contains_cons, List.contains_nil, Bool.or_false, beq_eq_false_iff_ne, ne_eq] at h3); simp [h1, h2, h3])))))
theorem lawE : PySem.Challenge.rw_qh0084_01.Holds := Mine.hd (by
  w_strict (w_top off; k_go0; (all_goals try k_fold); k_steps))
end
end
end Mine

theorem PySem.Challenge.cw_qh0084_01_holds : PySem.Challenge.rw_qh0084_01.Holds :=
  Mine.lawE
