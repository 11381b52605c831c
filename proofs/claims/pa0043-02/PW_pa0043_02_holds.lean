import PyProof.Rows.All
import Wide.All
import OpenK.AllK
import Wide.FinOn
import Lean
import PySem.Challenge.RW_pa0043_02
open PySem PySem.W PyProof.Rows
set_option Elab.async false
namespace Mine
local macro_rules | `(tactic| walk_at $s:str) => `(tactic| k_extra $s)
section
open PySem PySem.W PyProof.Rows
set_option maxRecDepth 100000
local macro_rules | `(tactic| o_head $H:term) => `(tactic| (assumption; exact $H))
noncomputable def H0 : Hook := by
  refine (fun (x : Hook) (_ : True) => x) ?a ((fun (_ : OpenRow.Holds PySem.Challenge.rw_pa0043_02.row → OpenRow.Holds PySem.Challenge.rw_pa0043_02.row) => trivial) ?b)
  rotate_left
  intro h
  w_on
  k_head
def keptOf (l : List Nat) (b : List Stmt) : List Stmt := l.filterMap fun i => b[i]?
def view : Program := { PySem.Challenge.pw_pa0043_02 with main := { PySem.Challenge.pw_pa0043_02.main with body := keptOf [0, 2, 3, 5, 6, 7, 8, 9, 10, 17, 18, 19, 20, 21, 22, 24, 25, 26, 27, 28, 29, 30, 31, 32] PySem.Challenge.pw_pa0043_02.main.body } }
abbrev loose : List Str := [Str.ofString "bytes_types", Str.ofString "a2b_base64", Str.ofString "b2a_base64", Str.ofString "b64encode", Str.ofString "b64decode"]
abbrev Walk : Prop := ∀ d kwd, defOf view (Str.ofString "law") = some (d, kwd) → WalkO view loose (XL view []) (Hook.says H0) PySem.Challenge.rw_pa0043_02.row.toRowW d kwd (fun f vs => PySem.call f vs)
end
section
open PySem PySem.W PyProof.Rows PySem.Calls
open Builtin Builtin._codecs
noncomputable def toBytes (x : Str) : Array UInt8 := x.cps.map Nat.toUInt8
theorem loop_one {β : Type} {l : List Nat} {f : Nat → β → Sem (ForInStep β)} {s₁ : β} (h1 : ∀ a, f a s₁ = pure (.done s₁)) : forIn l s₁ f = (pure s₁ : Sem β) := by
  cases l with
  | nil => rfl
  | cons a l => rw [List.forIn_cons, h1]; rfl
theorem loop_two {β : Type} {a : Nat} {l : List Nat} {f : Nat → β → Sem (ForInStep β)} {s₀ s₁ : β} (h0 : ∀ a, f a s₀ = pure (.yield s₁)) (h1 : ∀ a, f a s₁ = pure (.done s₁)) : forIn (a :: l) s₀ f = (pure s₁ : Sem β) := by
  rw [List.forIn_cons, h0]
  exact loop_one h1
theorem foldl_bytes (l : List Nat) : ∀ acc : Array UInt8, l.foldl (fun acc y => acc ++ (asciiCodec.bytesOf y).toArray) acc = acc ++ (l.map Nat.toUInt8).toArray := by
  induction l with
  | nil => intro acc; simp
  | cons a l ih => intro acc; rw [List.foldl_cons, ih]; simp [asciiCodec]
theorem narrow_some {γ : Type} {o : Option Nat} {c : Nat} (e : o = some c) {f : Nat → γ} {g : Option Nat → γ} {r : γ} (h : f c = r) : encodeNarrow.match_10 (fun _ => γ) o f g = r := by subst e; exact h
theorem narrow_none {γ : Type} {o : Option Nat} (e : o = none) {f : Nat → γ} {g : Option Nat → γ} {r : γ} (h : g none = r) : encodeNarrow.match_10 (fun _ => γ) o f g = r := by subst e; exact h
theorem ite_no {γ : Type} {p : Prop} [Decidable p] {a b r : γ} (hp : ¬ p) (h : b = r) : ite p a b = r := (if_neg hp).trans h
theorem ite_yes {γ : Type} {p : Prop} [Decidable p] {a b r : γ} (hp : p) (h : a = r) : ite p a b = r := (if_pos hp).trans h
theorem in_bind {α β : Type} {a : Sem α} {x : α} {f : α → Sem β} {y : β} (e : a = pure x) (h : f x = pure y) : (a >>= f) = pure y := by rw [e]; exact h
theorem range_loop {β : Type} {n : Nat} {s : β} {f : Nat → β → Sem (ForInStep β)} {r : Sem β} (h : forIn (List.range' 0 n 1) s f = r) : forIn ([:n] : Std.Legacy.Range) s f = r := by
  rw [Std.Legacy.Range.forIn_eq_forIn_range']
  have : ([:n] : Std.Legacy.Range).size = n := by simp [Std.Legacy.Range.size]
  rw [this]; exact h
theorem whole_bytes {cps : Array Nat} (hbad : ∀ c ∈ cps, asciiCodec.bad c = false) : (((cps.extract 0).findIdx? asciiCodec.bad).getD (cps.extract 0).size, ((cps.extract 0).extract 0 (((cps.extract 0).findIdx? asciiCodec.bad).getD (cps.extract 0).size)).foldl (fun acc y => acc ++ (asciiCodec.bytesOf y).toArray) #[]) = (cps.size, cps.map Nat.toUInt8) := by
  have he : cps.extract 0 = cps := Array.extract_size
  have hf : Array.findIdx? asciiCodec.bad cps = none := by rw [Array.findIdx?_eq_none_iff]; exact hbad
  rw [he, hf]
  show (cps.size, (cps.extract 0 cps.size).foldl _ _) = _
  rw [he, ← Array.foldl_toList, foldl_bytes]
  congr 1
  apply Array.ext'
  simp
theorem encodeNarrow_ascii (id : String) (self : Value) (x : Str) (h : ∀ c ∈ x.cps, c < 128) (hs : x.length ≤ sizeLine) : encodeNarrow id asciiCodec none self x = pure (toBytes x) := by
  have hbad : ∀ c ∈ x.cps, asciiCodec.bad c = false := fun c hc => decide_eq_false (Nat.not_le.mpr (h c hc))
  generalize hl : x.length = n at hs
  cases n with
  | zero =>
    have hc : x.cps = #[] := Array.eq_empty_of_size_eq_zero hl
    refine in_bind (x := (0, #[], {})) (range_loop ?_) ?_
    · rw [hl]; rfl
    · show pure _ = pure _
      unfold toBytes; rw [hc, Array.map_empty]
  | succ n =>
    refine in_bind (x := (x.length, toBytes x, {})) (range_loop ?_) rfl
    rw [hl]
    refine loop_two (fun a => ?_) (fun a => ?_)
    · refine ite_no (Nat.not_lt_zero _) (narrow_some (Array.getElem?_eq_getElem (i := 0) (by show 0 < x.length; omega)) (ite_yes ?_ ?_))
      · rw [hbad _ (Array.getElem_mem _)]; rfl
      · refine (congrArg (fun p : Nat × Array UInt8 => (pure (ForInStep.yield (0 + p.1, p.2, ({} : Faults))) : Sem _)) (whole_bytes hbad)).trans ?_
        dsimp only
        rw [Nat.zero_add, ← hl]; rfl
    · refine ite_no (by show ¬ (toBytes x).size > sizeLine; unfold toBytes; rw [Array.size_map]; show ¬ x.length > _; omega) (narrow_none (Array.getElem?_eq_none (by show x.length ≤ n + 1; omega)) rfl)
theorem encodeRoad_ascii (id : String) (self : Value) (x : Str) (errors : Option Str) : encodeRoad id self x (Str.ofString "ascii") errors = (do mkBytes (← encodeNarrow id asciiCodec errors self x)) := by
  first | rfl | (unfold encodeRoad; rfl) | (unfold encodeRoad; simp only []; rfl) | decide
theorem encode_tree_ascii (x : Str) (t u : Tok) : «str.encode» ⟨[.str x t, .str (Str.ofString "ascii") u], []⟩ = (do ret (← encodeRoad "str.encode" (.str x t) x (Str.ofString "ascii") none)) := by
  first | rfl | kernel_rfl
theorem gives_encode (x : Str) (t u : Tok) (h : ∀ c ∈ x.cps, c < 128) (hs : x.length ≤ sizeLine) : Gives («str.encode» ⟨[.str x t, .str (Str.ofString "ascii") u], []⟩) (.bytes (toBytes x)) := by
  rw [encode_tree_ascii, encodeRoad_ascii, encodeNarrow_ascii _ _ _ h hs]
  exact .of_eq rfl
section
variable {prog : Program} {w : World} {M : Model} {A : Around} {E : Value → Shared → Prop} {s : Shared}
theorem args_encode (a b : Value) : argsOk "str.encode" ⟨[a, b], []⟩ := by
  unfold argsOk; first | kernel_rfl | rfl
theorem method_encode {x : Str} {t : Tok} {pl : Sem Bool} {Q : Value × List Value → Shared → Prop} (h : Q (.builtin "str.encode", [.str x t]) s) : wpAny M A (getMethod (.str x t) (Str.ofString "encode") pl) Q E s :=
  by with_reducible exact getMethod_builtin (typeIs_str _ _ _) F.plainAttrs_str F.slot_str_encode F.type_str_encode (fun _ e => nomatch e) h
theorem call_encode {x : Str} {t u : Tok} {Q : Value → Shared → Prop} (h : ∀ c ∈ x.cps, c < 128) (hs : x.length ≤ 16777216) (hq : Q (.bytes (toBytes x) s.toks) { s with toks := s.toks + 1 }) :
    wpAny (model prog w) A (call (.builtin "str.encode") [.str x t, .str (Str.ofString "ascii") u]) Q E s := by
  have hs' : x.length ≤ sizeLine := by rw [sizeLine_eq]; exact hs
  refine call_gives F.slot_str_encode (typeIs_str _ _ _) F.entry_str_encode (args_encode _ _) (gives_encode x t u h hs') ⟨?_, hq⟩
  unfold toBytes; rw [Array.size_map]; exact hs'

noncomputable def tableOf (frm to : Array UInt8) : Array UInt8 := (frm.toList.zip to.toList).foldl (fun t p => t.setIfInBounds p.1.toNat p.2) ((Array.range 256).map (·.toUInt8))
noncomputable def translated (t b : Array UInt8) : Array UInt8 := b.map fun c => t.getD c.toNat c
theorem like_eq {id : String} {b : Array UInt8} {t : Tok} : Bytes.bytesLike id (.bytes b t) = pure b := KBd.like_eq
theorem slot_bytes_translate : Slot "bytes" "translate" "bytes.translate" :=
  .of (owner := "bytes") (n := "translate") (by rw [typeLookup_type, builtinLookup_eq_fast]; kernel_rfl) (by decide +kernel) (by decide +kernel) (by decide +kernel)
    (by first | exact .inl (by decide +kernel) | exact .inr (by decide +kernel)) (by rw [isSubtype_type]; kernel_rfl)
theorem type_bytes_translate : typeOf (.builtin "bytes.translate") = pure (.type "method_descriptor") := by show builtinType _ = _; rw [builtinType_eq_fast]; kernel_rfl
theorem entry_bytes_translate : entryFor table "bytes.translate" = some Builtin.«bytes.translate» := entryFor_of_tree (by kernel_rfl)
theorem args_bytes_translate (a b : Value) : argsOk "bytes.translate" ⟨[a, b], []⟩ := by
  unfold argsOk; rw [signature?_of (id := "bytes.translate") (n := "translate".toList.reverse) (o := ['s', 'e', 't', 'y', 'b']) (by kernel_rfl) FB.owner_bytes]; kernel_rfl
theorem entry_bytes_maketrans : entryFor table "bytes.maketrans" = some Builtin.«bytes.maketrans» := entryFor_of_tree (by kernel_rfl)
theorem method_translate {b : Array UInt8} {t : Tok} {pl : Sem Bool} {Q : Value × List Value → Shared → Prop} (h : Q (.builtin "bytes.translate", [.bytes b t]) s) : wpAny M A (getMethod (.bytes b t) (Str.ofString "translate") pl) Q E s :=
  by with_reducible exact KBd.method_of (.bytes b t) (typeIs_bytes _ _ _) slot_bytes_translate type_bytes_translate KBd.noRef h
theorem gives_translate (b c : Array UInt8) (t u : Tok) (hc : c.size = 256) : Gives («bytes.translate» ⟨[.bytes b t, .bytes c u], []⟩) (if (translated c b == b) = true then .val (.bytes b t) else .bytes (translated c b)) := by
  refine .of_wp fun M A E s Q hq => ?_
  unfold «bytes.translate» Bytes.translateM
  simp only [List.length_cons, List.length_nil]
  rw [if_neg (by decide), if_neg (by decide), if_neg (show ¬ ((Value.bytes c u == Value.none) = true) from Bool.false_ne_true)]
  refine wpAny_bind (wpAny_of_eq like_eq ?_)
  rw [if_neg (by simp [hc])]
  refine wpAny_bind (wpAny_pure ?_)
  refine wpAny_bind (wpAny_of_eq (a := #[]) rfl ?_)
  refine wpAny_bind (wpAny_of_eq (a := b) rfl ?_)
  have e : Array.map (fun x => (match some c with | some t => t.getD x.toNat x | none => x : UInt8)) (Array.filter (fun x => !(#[] : Array UInt8).contains x) b) = translated c b := by
    unfold translated
    have : Array.filter (fun x => !(#[] : Array UInt8).contains x) b = b := by
      rw [Array.filter_eq_self]; intro a _; simp
    rw [this]
  simp only [e]
  by_cases hb : (translated c b == b) = true
  · rw [if_pos hb] at hq ⊢
    refine wpAny_bind (wpAny_rule ?_)
    refine wpAny_bind (wpAny_of_eq (a := .bytes b t) rfl ?_)
    exact wpAny_pure ⟨_, rfl, hq⟩
  · rw [if_neg hb] at hq ⊢
    exact wpAny_bind (wpAny_mkBytes (wpAny_pure ⟨_, rfl, hq.2⟩) hq.1)
theorem call_translate {b c : Array UInt8} {t u : Tok} {Q : Value → Shared → Prop} (hc : c.size = 256) (hs : b.size ≤ 16777216) (hq : ∀ t' k, Q (.bytes (translated c b) t') { s with toks := k }) :
    wpAny (model prog w) A (call (.builtin "bytes.translate") [.bytes b t, .bytes c u]) Q E s := by
  refine call_gives slot_bytes_translate (typeIs_bytes _ _ _) entry_bytes_translate (args_bytes_translate _ _) (gives_translate b c t u hc) ?_
  by_cases hb : (translated c b == b) = true
  · rw [if_pos hb]
    have := hq t s.toks
    rw [eq_of_beq hb] at this
    exact this
  · rw [if_neg hb]
    exact ⟨by unfold translated; rw [Array.size_map, sizeLine_eq]; exact hs, hq _ _⟩
theorem foldl_set_size (l : List (UInt8 × UInt8)) : ∀ t : Array UInt8, (l.foldl (fun t p => t.setIfInBounds p.1.toNat p.2) t).size = t.size := by
  induction l with
  | nil => intro t; rfl
  | cons a l ih => intro t; rw [List.foldl_cons, ih]; simp
theorem tableOf_size (f t : Array UInt8) : (tableOf f t).size = 256 := by
  unfold tableOf
  rw [foldl_set_size]
  simp
theorem run_maketrans {b c : Array UInt8} {t u : Tok} {P : Fin → Shared → Prop} (hbc : b.size = c.size) (hq : P (.done (.ret (.bytes (tableOf b c) s.toks))) { s with toks := s.toks + 1 }) :
    wpAny M A (Builtin.«bytes.maketrans» ⟨[.bytes b t, .bytes c u], []⟩) P E s := by
  unfold Builtin.«bytes.maketrans» Bytes.maketransM
  refine wpAny_bind (wpAny_of_eq (a := ()) rfl ?_)
  refine wpAny_bind (wpAny_of_eq (a := ()) rfl ?_)
  refine wpAny_bind (wpAny_of_eq (a := b) like_eq ?_)
  refine wpAny_bind (wpAny_of_eq (a := c) like_eq ?_)
  simp only []
  rw [if_neg (by simp [hbc])]
  exact wpAny_bind (wpAny_mkBytes (wpAny_pure hq) (by show (tableOf b c).size ≤ _; rw [tableOf_size]; decide))
theorem check_maketrans {a b : Value} {Q : Unit → Shared → Prop} (hq : Q () s) : wpAny M A (checkBuiltinCall "bytes.maketrans" ⟨[a, b], []⟩) Q E s := by
  have hk : builtinKind "bytes.maketrans" = some .staticMethod := by decide +kernel
  have hsp : splitId "bytes.maketrans" = some ("bytes", "maketrans") := by decide +kernel
  have ha : argsOk "bytes.maketrans" ⟨[a, b], []⟩ := by
    unfold argsOk; rw [signature?_of (id := "bytes.maketrans") (n := "maketrans".toList.reverse) (o := ['s', 'e', 't', 'y', 'b']) (by kernel_rfl) FB.owner_bytes]; kernel_rfl
  unfold checkBuiltinCall
  simp only [hk, hsp]
  unfold argsOk at ha
  exact wpAny_of_eq ha hq
theorem call_maketrans {b c : Array UInt8} {t u : Tok} {Q : Value → Shared → Prop} (hbc : b.size = c.size) (hq : Q (.bytes (tableOf b c) s.toks) { s with toks := s.toks + 1 }) :
    wpAny (model prog w) A (call (.builtin "bytes.maketrans") [.bytes b t, .bytes c u]) Q E s :=
  wpAny_call (codeAny_call_builtin (by decide +kernel) entry_bytes_maketrans (check_maketrans (run_maketrans hbc hq)))
end
end
section
open PySem PySem.W PyProof.Rows PySem.Calls
open Builtin
noncomputable def B64 : List UInt8 := [65, 66, 67, 68, 69, 70, 71, 72, 73, 74, 75, 76, 77, 78, 79, 80, 81, 82, 83, 84, 85, 86, 87, 88, 89, 90, 97, 98, 99, 100, 101, 102, 103, 104, 105, 106, 107, 108, 109, 110, 111, 112, 113, 114, 115, 116, 117, 118, 119, 120, 121, 122, 48, 49, 50, 51, 52, 53, 54, 55, 56, 57, 43, 47]
noncomputable def sgn (f : Int) : Int := ((B64.getD f.toNat 0).toNat : Nat)
theorem sgn_range (f : Int) : 0 ≤ sgn f ∧ sgn f < 128 := by
  unfold sgn
  refine ⟨by omega, ?_⟩
  rw [List.getD_eq_getElem?_getD]
  by_cases h : f.toNat < 64
  · have : ∀ n : Fin 64, ((B64[n.val]?.getD 0).toNat : Int) < 128 := by decide
    exact this ⟨f.toNat, h⟩
  · rw [List.getElem?_eq_none (by show 64 ≤ _; omega)]; decide
theorem bitOr_nat (x y : Nat) : bitOr (x : Int) (y : Int) = ((x ||| y : Nat) : Int) := by
  unfold bitOr bitAnd bitNot
  have h1 : decide (0 ≤ -(x : Int) - 1) = false := decide_eq_false (by omega)
  have h2 : decide (0 ≤ -(y : Int) - 1) = false := decide_eq_false (by omega)
  rw [h1, h2]
  dsimp only
  have e1 : (-(-(x : Int) - 1) - 1).toNat = x := by omega
  have e2 : (-(-(y : Int) - 1) - 1).toNat = y := by omega
  rw [e1, e2]
  omega
theorem bitOr_add {a b : Int} (k : Nat) (ha : 0 ≤ a) (hb : 0 ≤ b) (hk : b < 2 ^ k) : bitOr (a * 2 ^ k) b = a * 2 ^ k + b := by
  obtain ⟨x, rfl⟩ := Int.eq_ofNat_of_zero_le ha
  obtain ⟨y, rfl⟩ := Int.eq_ofNat_of_zero_le hb
  have hy : y < 2 ^ k := by exact_mod_cast hk
  have e : (x : Int) * 2 ^ k = ((2 ^ k * x : Nat) : Int) := by rw [Int.natCast_mul, Int.natCast_pow, Int.mul_comm]; rfl
  rw [e, bitOr_nat, ← Nat.two_pow_add_eq_or_of_lt hy]
  omega
section
variable {prog : Program} {w : World} {A : Around} {E : Value → Shared → Prop} {s : Shared}
theorem b64_item {value slice : Expr} {x : Int} {t u : Tok} {Q : Value → Shared → Prop} (h : Q (.int (sgn (x % 64)) s.toks) { s with toks := s.toks + 1 })
    (hs : subscripted slice false (.bytes B64.toArray t) (.int (bitAnd x 63) u) = operate [.bytes B64.toArray t, .int (bitAnd x 63) u] (getItem (.bytes B64.toArray t) (.int (bitAnd x 63) u)) := by with_unfolding_all rfl) (ht : ∀ r, letTemporaryGo value (.bytes B64.toArray t) r = pure () := by intro _; with_unfolding_all rfl) :
    wpAny (model prog w) A (subscriptTail value slice (.bytes B64.toArray t) (.int (bitAnd x 63) u)) Q E s := by
  have e : bitAnd x 63 = x % 64 := bitAnd_m6 x
  refine subscriptTail_builtin (typeIs_bytes _ _ _) FB.slot_bytes_getitem.lookup (getItem_bytes (l := B64) (by decide) (by omega) (by show _ < ((64 : Nat) : Int); omega) ?_) hs ht
  rw [e]
  exact h
end
theorem store_int {M : Model} {A : Around} {E : Value → Shared → Prop} {h₀ h : Heap} {L a : Addr} {m : Str → Option Value} {news : List (Addr × Obj)} {cn : Str} {cs : Scope} {ccd : Value} {cl : List (Str × Addr)} {g : Array GenState} {dr : Drawn} {t : Nat} {os : OsState} {x : Str} {v : Int} {u : Tok} {Q : Unit → Shared → Prop}
    (F : Fr h₀ L h m) (N : News h₀ L h news)
    (hq : ∀ t' k h', Fr h₀ L h' (fun y => if y = x then some (.int v t') else m y) → News h₀ L h' news → Q () ⟨h', g, dr, k, os⟩)
    (hk : cs.kind = .function := by rfl) (hx : (envX cn cs L a ccd cl).kindOf x = some .local := by rfl) : wpAny M A (storeName (envX cn cs L a ccd cl) x (.int v u)) Q E ⟨h, g, dr, t, os⟩ :=
  storeX_L (s := ⟨h, g, dr, t, os⟩) F N (fun h' F' N' => hq u _ h' F' N') hk hx
theorem end_one {h₀ : Heap} {L : Addr} {J : (Str → Option Value) → List (Addr × Obj) → Prop} {m' : Str → Option Value} {own : List (Addr × Obj)} {d : Addr} {o : Obj} {s₁ : Shared} {h' : Heap} {tk : Nat} (F : Fr h₀ L h' m') (N : News h₀ L h' ((d, o) :: own))
    (hj : J m' [(d, o)]) : InvEndN h₀ L J own [d] s₁ { s₁ with heap := h', toks := tk } :=
  InvEndN.intro F N hj rfl (fun p hp => by rw [List.mem_singleton.mp hp]; exact List.mem_cons_self) fun p hp => List.mem_cons_of_mem _ hp
noncomputable def b2aStep (st : Int × Int × List Int) (k : Int) : Int × Int × List Int :=
  if st.1 = 0 then (2, (st.2.1 * 256 + k) % 65536, st.2.2 ++ [sgn ((st.2.1 * 256 + k) % 65536 / 4 % 64)])
  else if st.1 = 2 then (4, (st.2.1 * 256 + k) % 65536, st.2.2 ++ [sgn ((st.2.1 * 256 + k) % 65536 / 16 % 64)])
  else (0, (st.2.1 * 256 + k) % 65536, st.2.2 ++ [sgn ((st.2.1 * 256 + k) % 65536 / 64 % 64), sgn ((st.2.1 * 256 + k) % 65536 % 64)])
theorem b2a_char {c k : Int} (hc : 0 ≤ c) (h0 : 0 ≤ k) (h1 : k < 256) : bitAnd (bitOr (c * 2 ^ Int.toNat 8) k) 65535 = (c * 256 + k) % 65536 := by
  rw [bitAnd_m16, show Int.toNat 8 = 8 from rfl, bitOr_add 8 hc h0 (by exact h1)]
  rfl
theorem b2a_idx {c : Int} {x : Int} (k : Nat) (hc : c = x) (h0 : 0 ≤ x) : c.fdiv (2 ^ k) % 64 = x / 2 ^ k % 64 := by
  rw [hc, Int.fdiv_eq_ediv_of_nonneg _ (by exact Int.le_of_lt (kbt_pos k))]
theorem fold_next {σ : Type} {ks : List Int} {i : Nat} {k : Int} {f : σ → Int → σ} {z a : σ} (hi : ks[i]? = some k) (h : a = (ks.take i).foldl f z) : (ks.take (i + 1)).foldl f z = f a k := by
  rw [List.take_add_one, hi, List.foldl_append, ← h]
  rfl
end
section
open PySem PySem.W PyProof.Rows PySem.Calls
set_option maxRecDepth 100000
open Builtin Builtin.Str
noncomputable def sub1 (c : Nat) (z : List Nat) (l : List Nat) : List Nat := l.flatMap fun a => if a = c then z else [a]
theorem sub1_append (c : Nat) (z a b : List Nat) : sub1 c z (a ++ b) = sub1 c z a ++ sub1 c z b := List.flatMap_append
theorem sub1_free (c : Nat) (z : List Nat) : ∀ l : List Nat, c ∉ l → sub1 c z l = l
  | [], _ => rfl
  | k :: r, h => by
    have h1 : ¬ k = c := fun e => h (e ▸ List.mem_cons_self)
    show (if k = c then z else [k]) ++ sub1 c z r = k :: r
    rw [if_neg h1, sub1_free c z r fun m => h (List.mem_cons_of_mem _ m)]
    rfl
theorem sub1_self (c : Nat) (z : List Nat) : sub1 c z [c] = z := by simp [sub1]
theorem sub1_join (c : Nat) (z : Str) : ∀ parts : List Str, (∀ p ∈ parts, c ∉ p.cps.toList) → sub1 c z.cps.toList (Str.join ⟨#[c]⟩ parts).cps.toList = (Str.join z parts).cps.toList
  | [], _ => rfl
  | [p], h => sub1_free c _ _ (h p (List.mem_singleton.mpr rfl))
  | p :: q :: r, h => by
    have ih := sub1_join c z (q :: r) fun a ha => h a (List.mem_cons_of_mem _ ha)
    show sub1 c _ (p ++ ⟨#[c]⟩ ++ Str.join ⟨#[c]⟩ (q :: r)).cps.toList = (p ++ z ++ Str.join z (q :: r)).cps.toList
    simp only [Str.cps_append, Array.toList_append]
    rw [sub1_append, sub1_append, ih, sub1_free c _ _ (h p List.mem_cons_self)]
    show p.cps.toList ++ sub1 c _ [c] ++ _ = _
    rw [sub1_self]
theorem replace_sub1 (x z : Str) (c : Nat) : Txt.replace x ⟨#[c]⟩ z = ⟨(sub1 c z.cps.toList x.cps.toList).toArray⟩ := by
  have e : (Txt.replace x ⟨#[c]⟩ z).cps.toList = sub1 c z.cps.toList x.cps.toList := by
    rw [StrLaws.replace_one, ← sub1_join c z _ (StrLaws.split_free x c), StrLaws.join_split]
  rw [← e]
section
variable {prog : Program} {w : World} {A : Around} {E : Value → Shared → Prop} {s : Shared} {x y z : Str} {t u v : Tok} {Q : Value → Shared → Prop}
theorem replace_pos (hu : u ≠ 0) (hv : v ≠ 0) (huv : u ≠ v) (hyz : (y == z) = false) (hb : x.length + (x.length + 1) * z.length ≤ 16777216)
    (hq : ∀ t' k, s.toks ≤ k → Q (.str (Txt.replace x y z) t') { s with toks := k }) : wpAny (model prog w) A (call (.builtin "str.replace") [.str x t, .str y u, .str z v]) Q E s := by
  have hl : tooLong (x.length + (occurrences x y 0 x.length (x.length + 1)).length * z.length) = false := by
    have h1 := StrLaws.occ_length_le x y 0 x.length (x.length + 1)
    have h2 : (occurrences x y 0 x.length (x.length + 1)).length * z.length ≤ (x.length + 1) * z.length := Nat.mul_le_mul_right _ h1
    unfold tooLong
    rw [sizeLine_eq]
    exact decide_eq_false (by omega)
  refine call_gives F.slot_str_replace (typeIs_str _ _ _) F.entry_str_replace (F.args_str_replace_3 _ _ _) (gives_str_replace x y z t u v fun _ => ⟨by simp [hu, hv], by simp [huv], hyz, hl⟩) ?_
  by_cases hc : ((occurrences x y 0 x.length (x.length + 1)).isEmpty || (y.length == 0 && z.length == 0)) = true
  · have e : Txt.replace x y z = x := by unfold Txt.replace; rw [if_pos hc]
    rw [e] at hq
    rw [if_pos hc]
    exact hq t s.toks (Nat.le_refl _)
  · have e : Txt.replace x y z = glued z (partsBetween x (occurrences x y 0 x.length (x.length + 1)) y.length) := by unfold Txt.replace; rw [if_neg hc]
    rw [e] at hq
    rw [if_neg hc]
    exact ⟨fits_replaced y hb, hq _ _ (Nat.le_succ _)⟩
end
noncomputable def escScope : Scope := { kind := .function, names := [(Str.ofString "text", .local), (Str.ofString "TypeError", .globalImplicit), (Str.ofString "AttributeError", .globalImplicit), (Str.ofString "_raise_serialization_error", .globalImplicit)], isGenerator := false, isCoroutine := false, more := [] }
noncomputable def ofL (l : List Nat) : Str := ⟨l.toArray⟩
theorem ofL_cps (l : List Nat) : (ofL l).cps.toList = l := rfl
theorem ofL_length (l : List Nat) : (ofL l).length = l.length := by show l.toArray.size = _; simp
section
variable {prog : Program} {w : World} {A : Around} {E : Value → Shared → Prop} {h₀ h : Heap} {L a : Addr} {m : Str → Option Value} {cd : Value} {name : Str} {g : Array GenState} {dr : Drawn} {tk : Nat} {os : OsState} {l : List Nat} {tx : Tok} {Q : Flow → Shared → Prop}
  {p1 p2 p3 p4 p5 p6 p7 p8 p9 p10 p11 : Pos}
theorem if_replace {c : Nat} {r cs : Str} (hcs : cs = ⟨#[c]⟩) (ht : 0 < tk) (F : Fr h₀ L h m) (hm : m (Str.ofString "text") = some (.str (ofL l) tx)) (hcr : (cs == r) = false) (hb : l.length + (l.length + 1) * r.length ≤ 16777216)
    (hq : ∀ t' k h' m', 0 < k → Fr h₀ L h' m' → m' (Str.ofString "text") = some (.str (ofL (sub1 c r.cps.toList l)) t') → Q .next ⟨h', g, dr, k, os⟩) {pl : Sem Bool}
    (he : PySem.eval (.Call (.Attribute (.Name (Str.ofString "text") p5) (Str.ofString "replace") p6) [.Constant (.str cs) 0 p7, .Constant (.str r) 0 p8] [] p9) (envOf name escScope L a cd) = (do
      let ov ← PySem.eval (.Name (Str.ofString "text") p5) (envOf name escScope L a cd)
      standAt p6.atName
      let (f, first) ← holding [ov] (getMethod ov (Str.ofString "replace") pl)
      callWith p9 f first (backTo p9 (starEach [.Constant (.str cs) 0 p7, .Constant (.str r) 0 p8] (envOf name escScope L a cd))) []))
    (hsw : swapsWith (.Call (.Attribute (.Name (Str.ofString "text") p5) (Str.ofString "replace") p6) [.Constant (.str cs) 0 p7, .Constant (.str r) 0 p8] [] p9) (some (.Name (Str.ofString "text") p4)) p10.line (envOf name escScope L a cd) = pure false) :
    wpAny (model prog w) A (exec (.If (.Compare (.Constant (.str cs) 0 p1) [.In] [.Name (Str.ofString "text") p2] p3) [.Assign [.Name (Str.ofString "text") p4] (.Call (.Attribute (.Name (Str.ofString "text") p5) (Str.ofString "replace") p6) [.Constant (.str cs) 0 p7, .Constant (.str r) 0 p8] [] p9) p10] [] p11) (envOf name escScope L a cd)) Q E ⟨h, g, dr, tk, os⟩ := by
  subst hcs
  refine wpAny_If (wpAny_isTrue_Compare1 (wpAny_Constant_str (ld F hm (in_str (wpAny_truthy_bool ?_)))) (by with_unfolding_all rfl))
  by_cases hf : c ∈ l
  · rw [StrLaws.found_one, ofL_cps, if_pos (by rw [decide_eq_true hf])]
    refine wpAny_execs_cons (wpAny_Assign_Name ?_ hsw)
    refine MethodCall_ (pl := pl) ?_ he
    refine ld F hm ?_
    with_reducible refine GM.replace ?_
    refine callWith_method1 ?_
    refine args_cons ?_
    refine wpAny_Constant_str ?_
    refine args_cons ?_
    refine wpAny_Constant_str ?_
    refine args_nil ?_
    simp only [List.cons_append, List.nil_append]
    refine replace_pos (by show tk + 1 ≠ 0; omega) (by show tk + 1 + 1 ≠ 0; omega) (by show tk + 1 ≠ tk + 1 + 1; omega) hcr (by rw [ofL_length]; exact hb) ?_
    intro t' k hk
    refine st F ?_
    intro h' F'
    refine wpAny_execs_nil ?_
    have hk' : tk + 1 + 1 + 1 ≤ k := hk
    refine hq t' _ h' _ (Nat.succ_pos _) F' ?_
    show some (Value.str (Txt.replace (ofL l) ⟨#[c]⟩ r) t') = _
    rw [replace_sub1]
    rfl
  · rw [StrLaws.found_one, ofL_cps, if_neg (by rw [decide_eq_false hf]; exact Bool.false_ne_true)]
    refine wpAny_execs_nil ?_
    rw [sub1_free c _ _ hf] at hq
    exact hq tx _ h m (Nat.lt_succ_of_lt ht) F hm
end
end
section
open PySem PySem.W PyProof.Rows PySem.Calls
set_option maxRecDepth 100000
open Builtin Builtin.Str
theorem stub_bytes : Manifest.isStub "bytes" = false := by kernel_rfl
theorem ty_bytes : typeOf (.type "bytes") = pure (.type "type") := rfl
theorem gen_toks {α : Type} {M : Model} {A : Around} {E : Value → Shared → Prop} {t : Sem α} {Q : α → Shared → Prop} {h : Heap} {g : Array GenState} {d : Drawn} {o : OsState} {X : Nat} (hp : 0 < X) (hq : ∀ tk, 0 < tk → wpAny M A t Q E ⟨h, g, d, tk, o⟩) : wpAny M A t Q E ⟨h, g, d, X, o⟩ := hq X hp
noncomputable def escOf (tab : List (Nat × List Nat)) (a : Nat) : List Nat := (tab.lookup a).getD [a]
noncomputable def escL (tab : List (Nat × List Nat)) (l : List Nat) : List Nat := l.flatMap (escOf tab)
theorem escL_nil (l : List Nat) : escL [] l = l := by
  unfold escL
  have : (fun a => escOf [] a) = fun a => [a] := rfl
  show l.flatMap (fun a => escOf [] a) = l
  rw [this]; simp
theorem lookup_snoc (tab : List (Nat × List Nat)) (c : Nat) (z : List Nat) (a : Nat) : (tab ++ [(c, z)]).lookup a = match tab.lookup a with | some y => some y | none => if a = c then some z else none := by
  induction tab with
  | nil =>
    show ([(c, z)] : List (Nat × List Nat)).lookup a = _
    by_cases h : a = c
    · subst h; simp
    · have : (a == c) = false := by simpa using h
      simp [List.lookup, this, h]
  | cons p r ih =>
    rw [List.cons_append]
    by_cases h : a == p.1
    · simp [List.lookup, h]
    · simp only [Bool.not_eq_true] at h
      simp [List.lookup, h, ih]
theorem lookup_mem {tab : List (Nat × List Nat)} {a : Nat} {y : List Nat} (h : tab.lookup a = some y) : (a, y) ∈ tab := by
  induction tab with
  | nil => cases h
  | cons p r ih =>
    rw [List.lookup_cons] at h
    by_cases e : a == p.1
    · simp only [e] at h
      have : a = p.1 := by simpa using e
      cases h
      rw [this]
      exact List.mem_cons_self
    · simp only [Bool.not_eq_true] at e
      simp only [e] at h
      exact List.mem_cons_of_mem _ (ih h)
theorem esc_next {tab : List (Nat × List Nat)} {c : Nat} {z : List Nat} (hz : ∀ p ∈ tab, c ∉ p.2 ∧ p.1 ≠ c) (l : List Nat) : sub1 c z (escL tab l) = escL (tab ++ [(c, z)]) l := by
  unfold sub1 escL
  rw [List.flatMap_assoc]
  congr 1
  funext a
  unfold escOf
  rw [lookup_snoc]
  cases e : tab.lookup a with
  | some y =>
    have := (hz _ (lookup_mem e)).1
    show sub1 c z y = y
    exact sub1_free c z y this
  | none =>
    show ([a].flatMap fun a => if a = c then z else [a]) = _
    simp only [List.flatMap_cons, List.flatMap_nil, List.append_nil]
    split <;> rfl
theorem escL_length {tab : List (Nat × List Nat)} (h : ∀ p ∈ tab, p.2.length ≤ 6) (l : List Nat) : (escL tab l).length ≤ 6 * l.length := by
  induction l with
  | nil => exact Nat.le_refl _
  | cons a l ih =>
    show (escOf tab a ++ escL tab l).length ≤ _
    rw [List.length_append, List.length_cons]
    have : (escOf tab a).length ≤ 6 := by
      unfold escOf
      cases e : tab.lookup a with
      | some y => exact h _ (lookup_mem e)
      | none => show 1 ≤ 6; omega
    omega
section
variable {prog : Program} {w : World} {A : Around} {E : Value → Shared → Prop} {h₀ h : Heap} {L a : Addr} {m : Str → Option Value} {cd : Value} {name : Str} {g : Array GenState} {dr : Drawn} {tk : Nat} {os : OsState} {l : List Nat} {tx : Tok} {Q : Flow → Shared → Prop}
  {p1 p2 p3 p4 p5 p6 p7 p8 p9 p10 p11 : Pos}
theorem if_esc {tab : List (Nat × List Nat)} {c : Nat} {z : List Nat} {r cs : Str} (hlen : l.length ≤ 390000) (ht : 0 < tk) (F : Fr h₀ L h m) (hm : m (Str.ofString "text") = some (.str (ofL (escL tab l)) tx)) (hcs : cs = ofL [c]) (hr : r = ofL z)
    (hok : (tab.all fun p => decide (c ∉ p.2 ∧ p.1 ≠ c ∧ p.2.length ≤ 6)) = true) (hzl : z.length ≤ 6) (hcr : (cs == r) = false)
    (hq : ∀ (t' : Tok) (k : Nat) (h' : Heap) (m' : Str → Option Value), 0 < k → Fr h₀ L h' (fun y => if y = Str.ofString "text" then some (.str (ofL (escL (tab ++ [(c, z)]) l)) t') else m' y) → Q .next ⟨h', g, dr, k, os⟩) {pl : Sem Bool}
    (he : PySem.eval (.Call (.Attribute (.Name (Str.ofString "text") p5) (Str.ofString "replace") p6) [.Constant (.str cs) 0 p7, .Constant (.str r) 0 p8] [] p9) (envOf name escScope L a cd) = (do
      let ov ← PySem.eval (.Name (Str.ofString "text") p5) (envOf name escScope L a cd)
      standAt p6.atName
      let (f, first) ← holding [ov] (getMethod ov (Str.ofString "replace") pl)
      callWith p9 f first (backTo p9 (starEach [.Constant (.str cs) 0 p7, .Constant (.str r) 0 p8] (envOf name escScope L a cd))) []))
    (hsw : swapsWith (.Call (.Attribute (.Name (Str.ofString "text") p5) (Str.ofString "replace") p6) [.Constant (.str cs) 0 p7, .Constant (.str r) 0 p8] [] p9) (some (.Name (Str.ofString "text") p4)) p10.line (envOf name escScope L a cd) = pure false) :
    wpAny (model prog w) A (exec (.If (.Compare (.Constant (.str cs) 0 p1) [.In] [.Name (Str.ofString "text") p2] p3) [.Assign [.Name (Str.ofString "text") p4] (.Call (.Attribute (.Name (Str.ofString "text") p5) (Str.ofString "replace") p6) [.Constant (.str cs) 0 p7, .Constant (.str r) 0 p8] [] p9) p10] [] p11) (envOf name escScope L a cd)) Q E ⟨h, g, dr, tk, os⟩ := by
  have hok' : ∀ p ∈ tab, c ∉ p.2 ∧ p.1 ≠ c ∧ p.2.length ≤ 6 := fun p hp => of_decide_eq_true (List.all_eq_true.mp hok p hp)
  have hL := escL_length (tab := tab) (fun p hp => (hok' p hp).2.2) l
  subst hr
  refine if_replace hcs ht F hm hcr ?_ ?_ (pl := pl) he hsw
  · rw [ofL_length]
    have : ((escL tab l).length + 1) * z.length ≤ ((escL tab l).length + 1) * 6 := Nat.mul_le_mul_left _ hzl
    omega
  · intro t' k h' m' hk F' hm'
    rw [ofL_cps, esc_next fun p hp => ⟨(hok' p hp).1, (hok' p hp).2.1⟩] at hm'
    refine hq t' k h' m' hk ?_
    have : m' = fun y => if y = Str.ofString "text" then some (.str (ofL (escL (tab ++ [(c, z)]) l)) t') else m' y := by
      funext y
      by_cases e : y = Str.ofString "text"
      · rw [e, if_pos rfl]; exact hm'
      · rw [if_neg e]
    rw [← this]
    exact F'
end
end
section
open PySem PySem.W PyProof.Rows PySem.Calls
set_option maxRecDepth 100000
section
variable {prog : Program} {w : World} {A : Around} {E : Value → Shared → Prop} {s : Shared} {h₀ : Heap} {L : Addr} {m : Str → Option Value} {K : Frag} {p : Program} {loose : List Str} {mean : ExcName → Option Value} {mg mb : Str → Option Value}
  {b : Array UInt8} {tb : Tok} {scope : Scope} {env : Env} {x : Str} {pf pa pc : Pos} {Q : Value → Shared → Prop}
theorem strsAre_of {b : Array UInt8} {vs : List Value} : ∀ {ys : List Value} (n : Nat), Paired (fun v y => ∃ n u t, v = Value.int n u ∧ y = Value.str ⟨#[n.toNat]⟩ t) vs ys → (∀ j v, vs[j]? = some v → ∃ c u, b[n + j]? = some c ∧ v = .int (c.toNat : Int) u) →
    StrsAre ys (((KBw.bInts b).drop n |>.take vs.length).map fun k => (⟨#[k.toNat]⟩ : Str)) := by
  induction vs with
  | nil => intro ys n hp _; cases hp; simp; exact .nil
  | cons v vs ih =>
    intro ys n hp hv
    cases hp with
    | cons h1 h2 =>
      obtain ⟨k, u, t, rfl, rfl⟩ := h1
      obtain ⟨c, u', hc, e⟩ := hv 0 _ rfl
      cases e
      have hlt : n < (KBw.bInts b).length := by
        rw [KBw.ints_length]
        exact (Array.getElem?_eq_some_iff.mp hc).1
      have hg : (KBw.bInts b)[n]? = some (c.toNat : Int) := KBw.ints_get hc
      have e1 : (KBw.bInts b).drop n = (c.toNat : Int) :: (KBw.bInts b).drop (n + 1) := by
        rw [List.drop_eq_getElem_cons hlt]
        congr 1
        rw [List.getElem?_eq_getElem hlt] at hg
        exact Option.some.inj hg
      rw [e1, List.length_cons, List.take_succ_cons, List.map_cons]
      refine .cons _ _ (ih (n + 1) h2 fun j v hj => ?_)
      have := hv (j + 1) v hj
      rwa [show n + 1 + j = n + (j + 1) by omega]
theorem comp_chr (F : Fr h₀ L s.heap m) (X : K.In h₀) (T : Top p loose mean mg mb h₀) (e : nsIn K mainGlobals (Str.ofString "chr") = some none) (hh : A.handled = none) (hsz : b.size ≤ 16777216)
    (hg : env.globals = mainGlobals) (hb : env.builtins = builtinsNs) (hk : scope.kind = .function) (hx : scope.names.lookup x = some .local) (hc : scope.names.lookup (Str.ofString "chr") = some .globalImplicit) (hd : (x == ("__debug__" : Str)) = false)
    (hQ : ∀ D h' tk ys, h'.IsList D ys → StrsAre ys.toList ((KBw.bInts b).map fun k => (⟨#[k.toNat]⟩ : Str)) → (∀ a o, s.heap.get? a = some o → h'.get? a = some o) → Q (.ref D) { s with heap := h', toks := tk }) :
    wpAny (model prog w) A (pyIter (.bytes b tb)) (CompPost prog w A env scope x [] (.Call (.Name (Str.ofString "chr") pf) [.Name x pa] [] pc) Q) E s := by
  refine KBw.pyIter_bytes ?_
  refine ⟨fun _ => true, fun v y => ∃ n u t, v = .int n u ∧ y = .str ⟨#[n.toNat]⟩ t, _, _, _, _, _, _, rfl, KBw.walks hh s.heap.objs.size b tb, by rw [sizeLine_eq]; exact hsz, ⟨_, Heap.get?_push_size _ rfl, rfl, rfl⟩, ?_, ⟨?_, ?_⟩, ?_⟩
  · intro a ha
    rw [List.mem_singleton.mp ha]
    exact Heap.lt_size (Heap.get?_push_size _ rfl)
  · intro C i v s₃ m₃ E' _ _ _ _ _
    exact wpAny_pure ⟨rfl, _, _, rfl, fun _ _ e => e⟩
  · rintro C i v s₃ m₃ E' ⟨c, u, hc', rfl⟩ _ hn hm hkeep _
    have keep : ∀ a o, h₀.get? a = some o → s₃.heap.get? a = some o := fun a o ha => by
      have h1 := F.keep a o ha
      refine hkeep a o (fun hmem => ?_) (Heap.get?_push_of_some _ h1)
      exact absurd (Heap.lt_size h1) (by rw [List.mem_singleton.mp hmem]; exact Nat.lt_irrefl _)
    have hcl := c.toNat_lt
    refine Call_ ?_
    refine Name_function_global hk hc (loadGlobal_builtin (env := compEnv scope C env) (mg := mg) (mb := mb) (by show s₃.heap.Ns env.globals mg; rw [hg]; exact T.g.keeps keep) (mg_none_of X T.g e) (by show s₃.heap.Ns env.builtins mb; rw [hb]; exact T.b.keeps keep) ((T.builtins _ (by decide)).trans boot_chr) ?_)
    refine PyProof.Rows.callWith_builtin1 ?_
    refine args_cons ?_
    refine wpAny_Name (wpAny_loadName_local hk hx hn hm ?_) hd
    refine args_nil ?_
    refine chr_of_range (by omega) (by omega) ?_
    exact ⟨⟨_, _, _, rfl, rfl⟩, _, _, rfl, fun _ _ e => e⟩
  · intro D h' tk ys vs hD hl hpl hlen hP hpair hkeep
    have hf : vs.filter (fun _ => true) = vs := by simp
    rw [hf] at hpair
    refine hQ D h' tk ys hl ?_ fun a o ha => hkeep a o (fun hmem => ?_) (Heap.get?_push_of_some _ ha)
    · have := strsAre_of (b := b) (ys := ys.toList) 0 hpair (fun j v hj => by rw [Nat.zero_add]; exact hP j v hj)
      rwa [List.drop_zero, List.take_of_length_le (by rw [KBw.ints_length]; omega)] at this
    · exact absurd (Heap.lt_size ha) (by rw [List.mem_singleton.mp hmem]; exact Nat.lt_irrefl _)
theorem execs_eq {env : Env} : ∀ (n : Nat) (l : List Stmt), execs l env = (execs (l.take n) env >>= fun f => match f with | .next => execs (l.drop n) env | f => pure f)
  | 0, l => rfl
  | n + 1, [] => rfl
  | n + 1, st :: l => by
    rw [List.take_succ_cons, List.drop_succ_cons, execs_cons, execs_cons, bind_assoc]
    congr 1
    funext f
    cases f <;> first | exact execs_eq n l | rfl
theorem execs_cut {M : Model} {A : Around} {env : Env} {E : Value → Shared → Prop} {l : List Stmt} {Q : Flow → Shared → Prop} {s : Shared} (n : Nat) (Mid : Shared → Prop) (h1 : wpAny M A (execs (l.take n) env) (fun f s' => f = .next ∧ Mid s') E s)
    (h2 : ∀ s', Mid s' → wpAny M A (execs (l.drop n) env) Q E s') : wpAny M A (execs l env) Q E s :=
  by
    rw [execs_eq n l]
    exact wpAny_bind (wpAny_mono h1 (fun f s' h => by obtain ⟨rfl, h⟩ := h; exact h2 s' h) fun _ _ e => e)
noncomputable def textOf (b : Array UInt8) : List Nat := (KBw.bInts b).map Int.toNat
theorem join_chr {D : Addr} {ys : Array Value} {t : Tok} {l : List Nat} (hl9 : textOf b = l) (hsz : b.size ≤ 16777216) (hl : s.heap.IsList D ys) (hs : StrsAre ys.toList ((KBw.bInts b).map fun k => (⟨#[k.toNat]⟩ : Str)))
    (hQ : ∀ t' k, Q (.str (ofL l) t') { s with toks := k }) : wpAny (model prog w) A (call (.builtin "str.join") [.str (Str.ofString "") t, .ref D]) Q E s := by
  subst hl9
  refine join_list hl hs ?_ fun t' k => ?_
  · have e1 : (List.map (fun x => x.length) ((KBw.bInts b).map fun k => (⟨#[k.toNat]⟩ : Str))).sum = b.size := by
      rw [List.map_map, ← KBw.ints_length b]
      induction KBw.bInts b with
      | nil => rfl
      | cons a l ih => rw [List.map_cons, List.sum_cons, ih, List.length_cons]; show 1 + _ = _; omega
    rw [e1]
    show _ + _ * 0 ≤ _
    omega
  · have e : Txt.join (Str.ofString "") ((KBw.bInts b).map fun k => (⟨#[k.toNat]⟩ : Str)) = ofL (textOf b) := by
      unfold Txt.join
      rw [StrLaws.glued_eq_join]
      have := join_ones (textOf b)
      unfold textOf at this ⊢
      rw [List.map_map] at this
      exact this
    rw [e]
    exact hQ t' k
end
end
section
open PySem PySem.W PyProof.Rows PySem.Calls
set_option maxRecDepth 100000
theorem end_in {h₀ : Heap} {L : Addr} {J : (Str → Option Value) → List (Addr × Obj) → Prop} {m' : Str → Option Value} {own news' : List (Addr × Obj)} {d : Addr} {o : Obj} {s₁ : Shared} {h' : Heap} {tk : Nat} (F : Fr h₀ L h' m') (N : News h₀ L h' news')
    (hm : (d, o) ∈ news') (ho : ∀ p ∈ own, p ∈ news') (hj : J m' [(d, o)]) : InvEndN h₀ L J own [d] s₁ { s₁ with heap := h', toks := tk } :=
  InvEndN.intro F N hj rfl (fun p hp => by rw [List.mem_singleton.mp hp]; exact hm) ho
theorem ext_room {us : List Value} {k : Nat} (h : us.length + k ≤ 16777216) : ¬(!us.toArray.isEmpty && Builtin.List.listTooLong (us.toArray.size + k)) = true := by
  have : Builtin.List.listTooLong (us.toArray.size + k) = false := by
    unfold Builtin.List.listTooLong
    rw [sizeLine_eq]
    exact decide_eq_false (by simp only [List.size_toArray]; omega)
  rw [this, Bool.and_false]
  exact Bool.false_ne_true
theorem fits_long {x : Int} (h0 : -9223372036854775808 ≤ x) (h1 : x ≤ 9223372036854775807) : Builtin.Range.rangeFitsLong x = true := by
  unfold Builtin.Range.rangeFitsLong
  simp only [Bool.and_eq_true, decide_eq_true_eq]
  omega
theorem range_small {n : Nat} (h : n ≤ 200000) : Builtin.Range.small 0 (n : Int) 4 = true := by
  have h2 : Builtin.Range.rangeSize 0 (n : Int) 4 ≤ 200000 ∧ 0 ≤ Builtin.Range.rangeSize 0 (n : Int) 4 := by
    unfold Builtin.Range.rangeSize
    rw [if_pos (by decide)]
    split <;> omega
  unfold Builtin.Range.small
  rw [if_pos (by decide), fits_long (x := 0) (by omega) (by omega), fits_long (x := (n : Int)) (by omega) (by omega), fits_long (x := 4) (by omega) (by omega), fits_long (x := Builtin.Range.rangeSize 0 (n : Int) 4) (by omega) (by omega), fits_long (x := (n : Int) + (4 - 1)) (by omega) (by omega)]
  simp
theorem range_four {n : Nat} (h : n % 4 = 0) : Builtin.Range.rangeSize 0 (n : Int) 4 = ((n / 4 : Nat) : Int) := by
  unfold Builtin.Range.rangeSize
  rw [if_pos (by decide)]
  split <;> omega
theorem sub_list {prog : Program} {w : World} {A : Around} {E : Value → Shared → Prop} {s : Shared} {value slice : Expr} {l : Addr} {vs : List Value} {k : Int} {u : Tok} {v : Value} {Q : Value → Shared → Prop}
    (hl : s.heap.IsList l vs.toArray) (h0 : 0 ≤ k) (hk : k < 2 ^ 63) (hx : vs[k.toNat]? = some v) (h : Q v s)
    (hs : subscripted slice false (.ref l) (.int k u) = operate [.ref l, .int k u] (getItem (.ref l) (.int k u)) := by with_unfolding_all rfl) (ht : ∀ r, letTemporaryGo value (.ref l) r = pure () := by intro _; with_unfolding_all rfl) :
    wpAny (model prog w) A (subscriptTail value slice (.ref l) (.int k u)) Q E s :=
  subscriptTail_builtin hl.typeIs F.slot_list_getitem.lookup (wpAny_getItem_list hl h0 hk (by simpa using hx) h) hs ht
section
variable {prog : Program} {w : World} {A : Around} {E : Value → Shared → Prop} {s : Shared} {env : Env} {h₀ : Heap} {x : Str} {body : List Stmt} {Q : Flow → Shared → Prop} {m₀ : Str → Option Value} {news : List (Addr × Obj)}
theorem iter_rangeN {r : Addr} {a₀ b₀ c : Int} {t₀ u₀ v₀ : Tok} {n : Nat} (J : Nat → (Str → Option Value) → List (Addr × Obj) → Prop)
    (hh : A.handled = none) (hr : IsRange s.heap r a₀ b₀ c t₀ u₀ v₀) (hsmall : Builtin.Range.small a₀ b₀ c = true) (hn : Builtin.Range.rangeSize a₀ b₀ c = (n : Int)) (F : Fr h₀ env.locals s.heap m₀) (N : News h₀ env.locals s.heap news) (hj : J 0 m₀ news)
    (turn : ∀ (i : Nat) t m₁ news₁ h tk own, i < n → news₁.map (·.1) = news.map (·.1) → OwnOff own (news.map (·.1)) → J i m₁ news₁ → Fr h₀ env.locals h (fun y => if y = x then some (.int (a₀ + i * c) t) else m₁ y) → News h₀ env.locals h (news₁ ++ own) →
      wpAny (model prog w) A (execs body env) (InvPostN h₀ env.locals (J (i + 1)) own (news.map (·.1)) { s with heap := h, toks := tk } Q) E { s with heap := h, toks := tk })
    (done : ∀ m₁ news₁ h tk, J n m₁ news₁ → Fr h₀ env.locals h m₁ → News h₀ env.locals h news₁ → Q .next { s with heap := h, toks := tk }) :
    wpAny (model prog w) A (pyIter (.ref r)) (fun it s₂ => LoopAtV prog w A h₀ env x body Q E it s₂) E s := by
  refine wpAny_pyIter_range hr hsmall ?_
  have W : Walks prog w A s.heap.objs.size [s.heap.objs.size] [s.heap.objs.size] n (fun i v => i < n ∧ ∃ t, v = .int (a₀ + i * c) t)
      (fun i h => IsRangeIter h s.heap.objs.size (a₀ + (i : Nat) * c) ((n : Int) - (i : Nat)) c) := (Walks.range hh _ a₀ c n).bound
  refine loop_invN J W ?_ ?_ ?_ ?_ (by show IsRangeIter _ _ _ _ _; rw [hn]; simpa using Heap.get?_push_size _ rfl) (F.push _) (fun p hp => ⟨Heap.get?_push_of_some _ (N p hp).1, (N p hp).2⟩) hj ?_ done
  · intro hm
    exact absurd F.ns.lt ((List.mem_singleton.mp hm) ▸ Nat.lt_irrefl _)
  · intro b' hb
    rw [List.mem_singleton.mp hb]
    exact next_is_new F
  · intro p hp hI
    exact absurd (Heap.lt_size (N p hp).1) ((List.mem_singleton.mp hI) ▸ Nat.lt_irrefl _)
  · intro p hp hI
    exact absurd (Heap.lt_size (N p hp).1) ((List.mem_singleton.mp hI) ▸ Nat.lt_irrefl _)
  · rintro i v m₁ news₁ h tk own hi ⟨_, t, rfl⟩ hadr hoff hJ F₁ N₁
    exact turn i t m₁ news₁ h tk own hi hadr hoff hJ F₁ N₁
theorem iter_listN {l : Addr} {vs : List Value} (J : Nat → (Str → Option Value) → List (Addr × Obj) → Prop)
    (hh : A.handled = none) (hl : h₀.IsList l vs.toArray) (F : Fr h₀ env.locals s.heap m₀) (N : News h₀ env.locals s.heap news) (hj : J 0 m₀ news)
    (turn : ∀ (i : Nat) v m₁ news₁ h tk own, vs[i]? = some v → news₁.map (·.1) = news.map (·.1) → OwnOff own (news.map (·.1)) → J i m₁ news₁ → Fr h₀ env.locals h (fun y => if y = x then some v else m₁ y) → News h₀ env.locals h (news₁ ++ own) →
      wpAny (model prog w) A (execs body env) (InvPostN h₀ env.locals (J (i + 1)) own (news.map (·.1)) { s with heap := h, toks := tk } Q) E { s with heap := h, toks := tk })
    (done : ∀ m₁ news₁ h tk, J vs.length m₁ news₁ → Fr h₀ env.locals h m₁ → News h₀ env.locals h news₁ → Q .next { s with heap := h, toks := tk }) :
    wpAny (model prog w) A (pyIter (.ref l)) (fun it s₂ => LoopAtV prog w A h₀ env x body Q E it s₂) E s := by
  have hls : s.heap.IsList l vs.toArray := hl.at fun o e => F.keep l o e
  obtain ⟨ol, hol, _⟩ := id hl
  have hlt : l < h₀.objs.size := Heap.lt_size hol
  have hne : l ≠ s.heap.objs.size := Nat.ne_of_lt (Nat.lt_trans (Nat.lt_of_lt_of_le hlt F.above) F.ns.lt)
  refine wpAny_pyIter_list hls ?_
  have W := Walks.list (prog := prog) (w := w) hh s.heap.objs.size l hne vs.toArray
  have hlen : vs.toArray.size = vs.length := by simp
  rw [hlen] at W
  refine loop_invN J W ?_ ?_ ?_ ?_ ⟨⟨_, Heap.get?_push_size _ rfl, rfl, rfl⟩, hls.at fun o e => Heap.get?_push_of_some _ e⟩ (F.push _) (fun p hp => ⟨Heap.get?_push_of_some _ (N p hp).1, (N p hp).2⟩) hj ?_ done
  · intro hm
    rcases List.mem_cons.mp hm with e | hm
    · exact absurd F.ns.lt (e ▸ Nat.lt_irrefl _)
    · exact absurd (Nat.lt_of_lt_of_le hlt F.above) ((List.mem_singleton.mp hm) ▸ Nat.lt_irrefl _)
  · intro b hb
    rw [List.mem_singleton.mp hb]
    exact next_is_new F
  · intro p hp hI
    exact absurd (Heap.lt_size (N p hp).1) ((List.mem_singleton.mp hI) ▸ Nat.lt_irrefl _)
  · intro p hp hI
    rcases List.mem_cons.mp hI with e | hI
    · exact absurd (Heap.lt_size (N p hp).1) (e ▸ Nat.lt_irrefl _)
    · have := (N p hp).2.2
      rw [List.mem_singleton.mp hI, hol] at this
      cases this
  · rintro i v m₁ news₁ h tk own hi hP hadr hoff hJ F₁ N₁
    exact turn i v m₁ news₁ h tk own (by simpa using hP) hadr hoff hJ F₁ N₁
end
end
section
open PySem PySem.W PyProof.Rows PySem.Calls
set_option maxRecDepth 100000
noncomputable def tupObj (vs : List Value) : Obj := { cls := .type "tuple", data := .seq vs.toArray }
end
section
open PySem PySem.W PyProof.Rows PySem.Calls
set_option maxRecDepth 100000
open LCg PySem.Spec
section
variable {prog : Program} {w : World} {A : Around} {E : Value → Shared → Prop} {s : Shared} {h₀ : Heap} {L : Addr} {m : Str → Option Value} {env : Env}
inductive GSrc (prog : Program) (w : World) (A : Around) (h₀ : Heap) (L : Addr) (m : Str → Option Value) (env : Env) (elt : Expr) (x : Str) (scope : Scope) (cl : List (Str × Addr)) (Q : Value → Shared → Prop) (it : Value) (s₂ : Shared) : Prop
  | mk (I : Addr) (fp : List Addr) (n : Nat) (P : Nat → Value → Prop) (St : Nat → Heap → Prop) (S : List (Addr × Obj) → Prop) (news : List (Addr × Obj)) : it = .ref I → Walks prog w A I fp [I] n P St → n ≤ sizeLine → (∀ i h, St i h → ∃ o, h.get? I = some o) → (∀ i h h' o nw, St i h → h.get? I = some o → h'.get? I = some o → (∀ b o, h₀.get? b = some o → h'.get? b = some o) → News h₀ L h' nw → S nw → St i h') → St 0 s₂.heap → (∀ b ∈ fp, b < s₂.heap.objs.size) → Fr h₀ L s₂.heap m → News h₀ L s₂.heap news → L ≠ I → h₀.get? I = none → (∀ p ∈ news, p.1 ≠ I) → S news → CompRest prog w A h₀ L m env elt x scope cl s₂ S P (FinE h₀ L m s₂ Q) n 0 [] news → GSrc prog w A h₀ L m env elt x scope cl Q it s₂
theorem ListComp_G {elt iter : Expr} {x : Str} {px : Pos} {scope : Scope} {cl : List (Str × Addr)} {pos : Pos} {Q : Value → Shared → Prop} (_F₀ : Fr h₀ L s.heap m)
    (hclos : closureFor scope env = pure cl) (hcell : ∀ y ∈ scope.names, y.2 ≠ .cell) (hkind : scope.kind = .function)
    (hnames : ∀ y ∈ scope.names, y.2 = .local → scope.names.lookup y.1 = some .local) (hx : scope.names.lookup x = some .local)
    (h : wpAny (model prog w) A (eval iter env) (fun xv s₁ => wpAny (model prog w) A (pyIter xv) (GSrc prog w A h₀ L m env elt x scope cl Q) E s₁) E s)
    (hs : ∀ x, foldedSetIterable iter env x = pure x := by intro _; rfl) :
    wpAny (model prog w) A (eval (.ListComp elt [⟨.Name x px, iter, [], 0⟩] scope pos) env) Q E s := by
  rw [eval_ListComp]
  refine wpAny_comprehension_free (use := none) rfl hs hclos hkind hnames (wpAny_mono h (fun xv s₁ h₁ => wpAny_mono h₁ (fun it s₂ h₂ => ?_) fun _ _ e => e) fun _ _ e => e)
  obtain ⟨I, fp, n, P, St, S, news, rfl, W, hsz, hIo, hSt, hst, hfp, F, N, hIL, hI₀, off, hS, R⟩ := h₂
  refine block_U W hsz hIo hSt hcell hkind hx hst hfp F N hIL hI₀ off hS R ?_
  intro D C h tk m' ys news' F' N' o1 hn hC₀ hD₀ hCL hDL hCD offC fin
  refine ⟨m', hn, fun h'' hs'' => fin D h'' tk (F'.change hs'' hCL hC₀) (fun p hp => ?_) o1⟩
  refine ⟨hs''.extBut _ _ ?_ (N' p hp).1, (N' p hp).2⟩
  rcases List.mem_cons.mp hp with rfl | hp
  · exact Ne.symm hCD
  · exact offC p hp
theorem gsrc_ascii {elt : Expr} {x y : Str} {t : Tok} {scope : Scope} {cl : List (Str × Addr)} {Q : Value → Shared → Prop} {news : List (Addr × Obj)} (hh : A.handled = none) (ha : y.cps.all (· < 128) = true) (hsz : y.length ≤ 16777216) (F : Fr h₀ L s.heap m) (N : News h₀ L s.heap news)
    (R : ∀ g, CompRest prog w A h₀ L m env elt x scope cl { s with heap := g } (fun _ => True) (SignAt y) (FinE h₀ L m { s with heap := g } Q) y.cps.size 0 [] news) :
    wpAny (model prog w) A (pyIter (.str y t)) (GSrc prog w A h₀ L m env elt x scope cl Q) E s := by
  refine wpAny_pyIter_ascii ha ?_
  refine ⟨s.heap.objs.size, [s.heap.objs.size], y.cps.size, SignAt y, _, fun _ => True, news, rfl, Walks.strAscii hh _ y t, by rw [sizeLine_eq]; exact hsz, fun i h st => by obtain ⟨o, e, _⟩ := st; exact ⟨o, e⟩,
    fun i h h' o nw st e e' _ _ _ => by obtain ⟨o', q, r⟩ := st; rw [e] at q; cases q; exact ⟨o, e', r⟩, ⟨_, Heap.get?_push_size _ rfl, rfl, rfl⟩, ?_, F.push _, N.grown fun _ _ e => Heap.get?_push_of_some _ e, Nat.ne_of_lt F.ns.lt, next_is_new F, fun p hp => Nat.ne_of_lt (Heap.lt_size (N p hp).1), trivial, R _⟩
  intro b hb
  rw [List.mem_singleton.mp hb]
  show s.heap.objs.size < (s.heap.push _).objs.size
  rw [Heap.size_push]; exact Nat.lt_succ_self _
theorem rest_inv {elt : Expr} {x : Str} {scope : Scope} {cl : List (Str × Addr)} {S : List (Addr × Obj) → Prop} {P : Nat → Value → Prop} {Fin : List Value → List (Addr × Obj) → Prop} {n : Nat} (J : Nat → List Value → List (Addr × Obj) → Prop)
    (step : ∀ i ys news, i < n → J i ys news → ∀ v I oI C oC D m₂ h tk (E' : Value → Shared → Prop), P i v → NsObj oC m₂ → m₂ x = some v → Fr h₀ L h m → News h₀ L h ((I, oI) :: (C, oC) :: (D, lst ys) :: news) → Off3 I C D news → ((@Ne Nat I C) ∧ (@Ne Nat I D) ∧ (@Ne Nat C D)) →
      wpAny (model prog w) A (eval elt (compEnvC scope cl C env)) (CompEnd h₀ L m { s with heap := h, toks := tk } I oI C oC D (lst ys) S (fun y news' => J (i + 1) (ys ++ [y]) news')) E' { s with heap := h, toks := tk })
    (fin : ∀ ys news, J n ys news → Fin ys news) : ∀ k i ys news, i + k = n → J i ys news → CompRest prog w A h₀ L m env elt x scope cl s S P Fin k i ys news
  | 0, i, ys, news, e, hj => by
    obtain rfl : i = n := e
    exact fin ys news hj
  | k + 1, i, ys, news, e, hj => by
    refine CompRest.succ fun v I oI C oC D m₂ h tk E' hP ho hm F N off ne => ?_
    refine wpAny_mono (step i ys news (by omega) hj v I oI C oC D m₂ h tk E' hP ho hm F N off ne) (fun y s' hc => ?_) fun _ _ e => e
    obtain ⟨h', tk', news', rfl, F', N', off', hS, hj'⟩ := hc
    exact ⟨h', tk', news', rfl, F', N', off', hS, rest_inv J step fin k (i + 1) (ys ++ [y]) news' (by omega) hj'⟩
abbrev flatE (x y : Str) (px py pz : Pos) (iter iter2 : Expr) (scope : Scope) (pos : Pos) : Expr := .ListComp (.Name y pz) [⟨.Name x px, iter, [], 0⟩, ⟨.Name y py, iter2, [], 0⟩] scope pos
variable {x y : Str} {px py pz : Pos} {iter iter2 : Expr} {scope : Scope} {pos : Pos} {R : Result → Shared → Prop}
theorem turn0 (it acc : Value) (env : Env) : compTurn (flatE x y px py pz iter iter2 scope pos) 0 it acc env = (standAt iter.pos >>= fun _ => pyNext it >>= fun r => match r with
    | none => pure (.done .next)
    | some v => letOwnedTupleGo (.Name x px) it v >>= fun _ => assign (.Name x px) env v >>= fun _ =>
      (eval iter2 env >>= fun z => standAt iter2.pos >>= fun _ => foldedSetIterable iter2 env z >>= fun z => holding [z] (pyIter z) >>= fun it2 => runOwn (.compStart (flatE x y px py pz iter iter2 scope pos) 1 it2 acc env) env >>= fun _ =>
        again (.compLoop (flatE x y px py pz iter iter2 scope pos) 0 it acc env))) := by rfl
theorem turn1 (it acc : Value) (env : Env) : compTurn (flatE x y px py pz iter iter2 scope pos) 1 it acc env = (standAt iter2.pos >>= fun _ => pyNext it >>= fun r => match r with
    | none => pure (.done .next)
    | some v => letOwnedTupleGo (.Name y py) it v >>= fun _ => assign (.Name y py) env v >>= fun _ =>
      (eval (.Name y pz) env >>= fun z => call (.builtin "list.append") [acc, z] >>= fun _ => pure ()) >>= fun _ =>
        again (.compLoop (flatE x y px py pz iter iter2 scope pos) 1 it acc env)) := by rfl
theorem start1 {it acc : Value} {env : Env} (h0 : codeAny (model prog w) A (.compLoop (flatE x y px py pz iter iter2 scope pos) 1 it acc env) R s)
    (h : wpAny (model prog w) A (pyIter it) (fun it' s' => codeAny (model prog w) A (.compLoop (flatE x y px py pz iter iter2 scope pos) 1 it' acc env) R s') (notedBy (model prog w) A env fun x s' => R (.error x) s') s) :
    codeAny (model prog w) A (.compStart (flatE x y px py pz iter iter2 scope pos) 1 it acc env) R s := by
  refine codeAny_of_tree ?_
  show wpAny _ _ ((compStart (flatE x y px py pz iter iter2 scope pos) 1 it acc env).onRaise (fun x => do noteFrame x env; standAt theWindowsPlace)) _ _ s
  refine wpAny_notedAt ?_
  unfold compStart
  show wpAny _ _ (ask >>= _) _ _ s
  refine wpAny_bind (wpAny_askSetting (wpAny_ite ?_))
  split
  · first
      | exact wpAny_bind (wpAny_pure (wpAny_pure (And.intro rfl h0)))
      | exact wpAny_pure (And.intro rfl h0)
  · first
      | exact wpAny_bind (wpAny_rule (wpAny_bind (wpAny_standAt (wpAny_bind (wpAny_mono h (fun it' s' h' => wpAny_pure (And.intro rfl h')) fun _ _ x => x)))))
      | (refine wpAny_bind (wpAny_rule ?_); show wpAny _ _ (standAt iter2.pos >>= _) _ _ s; exact wpAny_bind (wpAny_standAt (wpAny_bind (wpAny_mono h (fun it' s' h' => wpAny_pure (And.intro rfl h')) fun _ _ x => x))))
inductive LoopI (s : Shared) (I d D C : Addr) (ys acc : List Value) (k : Nat) (s' : Shared) : Prop
  | mk (i : Nat) (h' : Heap) (tk : Nat) (m'' : Str → Option Value) : s' = { s with heap := h', toks := tk } → i ≤ ys.length → k = ys.length + 1 - i → h'.IsListIter I d i → h'.IsList d ys.toArray → h'.get? D = some (lst (acc ++ ys.take i)) → h'.Ns C m'' → (∀ b o, b ≠ I → b ≠ C → b ≠ D → s.heap.get? b = some o → h'.get? b = some o) → LoopI s I d D C ys acc k s'
theorem loop1 {I d D C : Addr} {ys acc : List Value} {cl : List (Str × Addr)} {m' : Str → Option Value} (hh : A.handled = none) (hkind : scope.kind = .function) (hy : scope.names.lookup y = some .local) (hyd : (y == ("__debug__" : Str)) = false)
    (hDC : D ≠ C) (hIC : I ≠ C) (hID : I ≠ D) (hdC : d ≠ C) (hdD : d ≠ D) (hdI : d ≠ I) (hit : s.heap.IsListIter I d 0) (hl : s.heap.IsList d ys.toArray) (hacc : s.heap.get? D = some (lst acc)) (hn : s.heap.Ns C m') (hsz : acc.length + ys.length ≤ sizeLine)
    (hR : ∀ h' tk m'', h'.get? D = some (lst (acc ++ ys)) → h'.Ns C m'' → (∀ b o, b ≠ I → b ≠ C → b ≠ D → s.heap.get? b = some o → h'.get? b = some o) → R (.ok .next) { s with heap := h', toks := tk }) :
    codeAny (model prog w) A (.compLoop (flatE x y px py pz iter iter2 scope pos) 1 (.ref I) (.ref D) (compEnvC scope cl C env)) R s := by
  refine codeAny_loop rfl (LoopI s I d D C ys acc) ?_ (ys.length + 1)
    ⟨0, s.heap, s.toks, m', rfl, Nat.zero_le _, rfl, hit, hl, by simpa using hacc, hn, fun _ _ _ _ _ e => e⟩
  rintro k s' ⟨i, h', tk, m'', rfl, hi, rfl, hit', hl', hacc', hn', hk'⟩
  show wpAny _ _ ((compTurn (flatE x y px py pz iter iter2 scope pos) 1 (.ref I) (.ref D) (compEnvC scope cl C env)).onRaise (fun x => do noteFrame x (compEnvC scope cl C env); theTreesLotGoes x)) _ _ _
  refine wpAny_noted ?_
  rw [turn1]
  refine wpAny_bind (wpAny_standAt (wpAny_bind ?_))
  have W := Walks.list (prog := prog) (w := w) hh I d hdI ys.toArray
  by_cases hlt : i < ys.length
  · refine W.item i _ _ _ (by simpa using hlt) ⟨hit', hl'⟩ fun v h₁ tk₁ hP hst hk₁ => ?_
    have hv : ys[i]? = some v := by simpa using hP
    refine wpAny_bind (wpAny_of_eq (a := ()) rfl ?_)
    refine wpAny_bind (wpAny_assign_Name (wpAny_storeName_local (lookup_relabel_local hy) (hn'.at' fun o e => hk₁ _ o (by simpa using Ne.symm hIC) e) (fun h₂ hn₂ hs₂ => ?_) (by simp [compEnvC, relabel, hkind])))
    refine wpAny_bind (wpAny_bind (wpAny_Name (wpAny_loadName_local (by show (relabel scope env).kind = _; exact hkind) (lookup_relabel_local hy) hn₂ (by show (if y = y then some v else _) = _; rw [if_pos rfl]) ?_) hyd))
    have hD₂ : h₂.get? D = some (lst (acc ++ ys.take i)) := hs₂.extBut _ _ hDC (hk₁ _ _ (by simpa using Ne.symm hID) hacc')
    refine wpAny_bind (append_at (hsz := by rw [List.size_toArray, List.length_append, List.length_take]; omega) hD₂ fun h₃ hs₃ hD₃ => ?_)
    refine wpAny_pure (wpAny_pure ⟨rfl, ys.length + 1 - (i + 1), by omega, i + 1, h₃, _, _, rfl, hlt, rfl, ?_, ?_, ?_, hn₂.sameBut hs₃ (Ne.symm hDC), ?_⟩)
    · obtain ⟨o, e, r⟩ := hst.1
      exact ⟨o, hs₃.extBut _ _ hID (hs₂.extBut _ _ hIC e), r⟩
    · exact (hst.2.extBut hs₂.extBut hdC).extBut hs₃.extBut hdD
    · rw [hD₃, lst_snoc, List.take_add_one, hv, List.append_assoc]; rfl
    · intro b o b1 b2 b3 e
      exact hs₃.extBut _ _ b3 (hs₂.extBut _ _ b2 (hk₁ _ _ (by simpa using b1) (hk' _ _ b1 b2 b3 e)))
  · obtain rfl : i = ys.length := Nat.le_antisymm hi (Nat.not_lt.mp hlt)
    refine W.done _ _ _ (by rw [List.size_toArray]; exact ⟨hit', hl'⟩) fun h₁ tk₁ hk₁ => ?_
    refine wpAny_pure (hR h₁ tk₁ m'' ?_ (hn'.at' fun o e => hk₁ _ o (by simpa using Ne.symm hIC) e) fun b o b1 b2 b3 e => hk₁ _ _ (by simpa using b1) (hk' _ _ b1 b2 b3 e))
    rw [List.take_length] at hacc'
    exact hk₁ _ _ (by simpa using Ne.symm hID) hacc'

inductive Inner (s₂ : Shared) (h : Heap) (C D : Addr) (G : List Value → Prop) (B : Nat) (z : Value) (s' : Shared) : Prop
  | mk (h' : Heap) (tk' : Nat) (d : Addr) (ys : List Value) : z = .ref d → s' = { s₂ with heap := h', toks := tk' } → h.StaysIn h' → d ≠ C → d ≠ D → h'.IsList d (List.toArray ys) → G ys → ys.length ≤ B → Inner s₂ h C D G B z s'
inductive FlatI (h₀ : Heap) (L : Addr) (m : Str → Option Value) (news : List (Addr × Obj)) (s₂ : Shared) (I l D C : Addr) (vs : List Value) (G : Nat → List Value → Prop) (B k : Nat) (s' : Shared) : Prop
  | mk (i : Nat) (h' : Heap) (tk : Nat) (m' : Str → Option Value) (yss : List (List Value)) : s' = { s₂ with heap := h', toks := tk } → i ≤ vs.length → k = vs.length + 1 - i → h'.IsListIter I l i → h'.IsList l vs.toArray → Fr h₀ L h' m → h'.Ns C m' → News h₀ L h' ((D, lst (List.flatten yss)) :: news) →
        yss.length = i → (∀ j ys, yss[j]? = some ys → G j ys ∧ ys.length ≤ B) → FlatI h₀ L m news s₂ I l D C vs G B k s'
theorem block_flat {cl : List (Str × Addr)} {I l : Addr} {vs : List Value} {news : List (Addr × Obj)} {s₂ : Shared} {G : Nat → List Value → Prop} {B : Nat} {RR : Value → Addr → Result → Shared → Prop}
    (hh : A.handled = none) (hcell : ∀ y ∈ scope.names, y.2 ≠ .cell) (hkind : scope.kind = .function) (hx : scope.names.lookup x = some .local) (hy : scope.names.lookup y = some .local) (hyd : (y == ("__debug__" : Str)) = false)
    (hs2 : ∀ env' z, foldedSetIterable iter2 env' z = pure z)
    (hit : s₂.heap.IsListIter I l 0) (hl : s₂.heap.IsList l vs.toArray) (hlI : l ≠ I)
    (F : Fr h₀ L s₂.heap m) (N : News h₀ L s₂.heap news) (hIL : L ≠ I) (hI₀ : h₀.get? I = none) (off : ∀ p ∈ news, p.1 ≠ I)
    (hB : vs.length * B ≤ sizeLine)
    (helt : ∀ i v I oI C oC D m₂ acc h tk (E' : Value → Shared → Prop), vs[i]? = some v → NsObj oC m₂ → m₂ x = some v → Fr h₀ L h m → News h₀ L h ((I, oI) :: (C, oC) :: (D, lst acc) :: news) → Off3 I C D news → ((@Ne Nat I C) ∧ (@Ne Nat I D) ∧ (@Ne Nat C D)) →
      wpAny (model prog w) A (eval iter2 (compEnvC scope cl C env)) (Inner s₂ h C D (G i) B) E' { s₂ with heap := h, toks := tk })
    (hRR : ∀ D C h tk m' yss, Fr h₀ L h m → News h₀ L h ((D, lst (List.flatten yss)) :: news) → Off1 D news → h.Ns C m' → h₀.get? C = none → h₀.get? D = none → C ≠ L → D ≠ L → C ≠ D → (∀ p ∈ news, p.1 ≠ C) → yss.length = vs.length → (∀ i ys, yss[i]? = some ys → G i ys ∧ ys.length ≤ B) →
      RR (.ref D) C (.ok .next) { s₂ with heap := h, toks := tk }) :
    wpAny (model prog w) A (newList []) (fun acc s₃ => wpAny (model prog w) A (newFunctionEnv scope env.globals cl [] env.qual none .none (some env)) (fun cenv s₄ =>
      codeAny (model prog w) A (.compStart (flatE x y px py pz iter iter2 scope pos) 0 (.ref I) acc { cenv with scope := relabel scope env }) (RR acc cenv.locals) s₄) E s₃) E s₂ := by
  refine wpAny_newObj_type (wpAny_newFunctionEnv hcell (by intro y hy; simp at hy) (fun h₁ hns₁ hsb₁ => ?_) hkind)
  dsimp only at hns₁ hsb₁ ⊢
  generalize hH2 : s₂.heap.push { cls := .type "list", dict := none, data := .seq ([] : List Value).toArray } = H2 at hns₁ hsb₁ ⊢
  have hC : H2.objs.size = s₂.heap.objs.size + 1 := by rw [← hH2, Heap.size_push]
  generalize hD : s₂.heap.objs.size = D at *
  generalize hCC : H2.objs.size = C at *
  have hDC : D ≠ C := by rw [hC]; exact Nat.ne_of_lt (Nat.lt_succ_self _)
  have below : ∀ b, b < D → b ≠ C ∧ b ≠ D := fun b hb => ⟨by rw [hC]; exact Nat.ne_of_lt (Nat.lt_succ_of_lt hb), Nat.ne_of_lt hb⟩
  have old : ∀ b o, s₂.heap.get? b = some o → h₁.get? b = some o := fun b o e => hsb₁.extBut b o (below b (hD ▸ Heap.lt_size e)).1 (Heap.get?_push_of_some _ (hH2 ▸ Heap.get?_push_of_some _ e))
  have hacc : h₁.get? D = some (lst []) := hsb₁.extBut _ _ hDC (Heap.get?_push_of_some _ (by rw [← hH2, ← hD]; exact Heap.get?_push_size _ rfl))
  have hIlt : I < D := by obtain ⟨o, e, _⟩ := hit; exact hD ▸ Heap.lt_size e
  have hllt : l < D := by obtain ⟨o, e, _⟩ := hl; exact hD ▸ Heap.lt_size e
  have fresh₀ : ∀ a, D ≤ a → h₀.get? a = none := fun a ha => by
    cases e : h₀.get? a with
    | none => rfl
    | some o' => have := Heap.lt_size (F.keep a o' e); rw [hD] at this; exact absurd this (Nat.not_lt.mpr ha)
  have hD₀ : h₀.get? D = none := fresh₀ _ (Nat.le_refl _)
  have hC₀ : h₀.get? C = none := fresh₀ _ (by rw [hC]; exact Nat.le_succ _)
  have hLlt : L < D := hD ▸ F.ns.lt
  have hDL : D ≠ L := Ne.symm (below L hLlt).2
  have hCL : C ≠ L := Ne.symm (below L hLlt).1
  have hIC : I ≠ C := (below I hIlt).1
  have hID : I ≠ D := (below I hIlt).2
  have nb : ∀ p ∈ news, p.1 ≠ I ∧ p.1 ≠ C ∧ p.1 ≠ D := fun p hp => ⟨off p hp, below _ (hD ▸ Heap.lt_size (N p hp).1)⟩
  have off3 : Off3 I C D news := Off3.of nb
  have W := Walks.list (prog := prog) (w := w) hh I l hlI vs.toArray
  have loop : ∀ s₃ : Shared, s₃ = { s₂ with heap := h₁, toks := s₂.toks + ([] : List (Str × Value)).length } →
      codeAny (model prog w) A (.compLoop (flatE x y px py pz iter iter2 scope pos) 0 (.ref I) (.ref D) (compEnvC scope cl C env)) (RR (.ref D) C) s₃ := by
    rintro s₃ rfl
    refine codeAny_loop rfl (FlatI h₀ L m news s₂ I l D C vs G B) ?_ (vs.length + 1)
      ⟨0, h₁, _, _, [], rfl, Nat.zero_le _, rfl, ?_, hl.at fun o e => old _ _ e, F.keeps old, hns₁, fun p hp => ?_, rfl, fun j ys hj => by simp at hj⟩
    · rintro k s' ⟨i, h', tk, m', yss, rfl, hi, rfl, hit', hl', F', hn', N', hyl, hG⟩
      show wpAny _ A ((compTurn (flatE x y px py pz iter iter2 scope pos) 0 (.ref I) (.ref D) (compEnvC scope cl C env)).onRaise (fun x => do noteFrame x (compEnvC scope cl C env); theTreesLotGoes x)) _ _ _
      refine wpAny_noted ?_
      rw [turn0]
      refine wpAny_bind (wpAny_standAt (wpAny_bind ?_))
      by_cases hlt : i < vs.length
      · refine W.item i _ _ _ (by simpa using hlt) ⟨hit', hl'⟩ fun v h₂ tk₂ hP hst hk₂ => ?_
        have hv : vs[i]? = some v := by simpa using hP
        refine wpAny_bind (wpAny_of_eq (a := ()) rfl ?_)
        refine wpAny_bind (wpAny_assign_Name (wpAny_storeName_local (lookup_relabel_local hx) (hn'.at' fun o e => hk₂ _ o (by simpa using Ne.symm hIC) e) (fun h₃ hn₃ hs₃ => ?_) (by simp [compEnvC, relabel, hkind])))
        obtain ⟨oC, heC, hoC⟩ := ns_obj hn₃
        obtain ⟨oI, heI, rI⟩ := hst.1
        have heI₃ := hs₃.extBut _ _ hIC heI
        have F₃ : Fr h₀ L h₃ m := (fr_but F' hk₂ hIL hI₀).change hs₃ hCL hC₀
        have N₂ : News h₀ L h₂ ((D, lst (List.flatten yss)) :: news) := news_but N' hk₂ fun p hp => by
          rcases List.mem_cons.mp hp with rfl | hp
          · exact Ne.symm hID
          · exact off p hp
        have N₃ : News h₀ L h₃ ((I, oI) :: (C, oC) :: (D, lst (List.flatten yss)) :: news) := fun p hp => by
          rcases List.mem_cons.mp hp with rfl | hp
          · exact ⟨heI₃, Ne.symm hIL, hI₀⟩
          · rcases List.mem_cons.mp hp with rfl | hp
            · exact ⟨heC, hCL, hC₀⟩
            · refine ⟨hs₃.extBut _ _ ?_ (N₂ p hp).1, (N₂ p hp).2⟩
              rcases List.mem_cons.mp hp with rfl | hp
              · exact hDC
              · exact (nb p hp).2.1
        refine wpAny_bind (wpAny_mono (helt i v I oI C oC D _ _ h₃ _ _ hv hoC (by simp) F₃ N₃ off3 ⟨hIC, hID, Ne.symm hDC⟩) (fun z s₄ h₄ => ?_) fun _ _ e => e)
        obtain ⟨h₄, tk₄, d, ys, rfl, rfl, st₄, hd₁, hd₂, hdl, hGi, hyB⟩ := h₄
        refine wpAny_bind (wpAny_standAt (wpAny_bind (wpAny_of_eq (hs2 _ _) (wpAny_bind (wpAny_holding ?_)))))
        refine wpAny_pyIter_list hdl ?_
        refine wpAny_bind (wpAny_runOwn ?_)
        have up : ∀ b o, h₃.get? b = some o → (h₄.push { cls := .type "list_iterator", data := .fields #[.ref d, .int 0 0] }).get? b = some o := fun b o e => Heap.get?_push_of_some _ (st₄ b o e)
        have lt₃ : ∀ b o, h₃.get? b = some o → b < h₄.objs.size := fun b o e => Heap.lt_size (st₄ b o e)
        have hD₃ : h₃.get? D = some (lst (List.flatten yss)) := (N₃ _ (.tail _ (.tail _ (.head _)))).1
        have dlt : d < h₄.objs.size := by obtain ⟨_, e, _⟩ := hdl; exact Heap.lt_size e
        have hsum : (List.flatten yss).length ≤ i * B := by
          have : ∀ (zs : List (List Value)), (∀ (j : Nat) ys, zs[j]? = some ys → ys.length ≤ B) → (List.flatten zs).length ≤ zs.length * B := by
            intro zs
            induction zs with
            | nil => intro _; simp
            | cons a zs ih =>
              intro hz
              rw [List.flatten_cons, List.length_append, List.length_cons, Nat.succ_mul]
              have := hz 0 a rfl
              have := ih fun j ys hj => hz (j + 1) ys hj
              omega
          rw [← hyl]
          exact this yss fun j ys hj => (hG j ys hj).2
        have hroom : (List.flatten yss).length + ys.length ≤ sizeLine := by
          have h1 : (i + 1) * B ≤ vs.length * B := Nat.mul_le_mul_right _ hlt
          rw [Nat.succ_mul] at h1
          omega
        show codeAny (model prog w) A _ _ _
        have hit₄ : (h₄.push { cls := .type "list_iterator", data := .fields #[.ref d, .int 0 0] }).IsListIter h₄.objs.size d 0 := ⟨_, Heap.get?_push_size _ rfl, rfl, rfl⟩
        have inner : codeAny (model prog w) A (.compLoop (flatE x y px py pz iter iter2 scope pos) 1 (.ref h₄.objs.size) (.ref D) (compEnvC scope cl C env))
            (fun r s' => match r with
              | .ok f => wpAny (model prog w) A (again (.compLoop (flatE x y px py pz iter iter2 scope pos) 0 (.ref I) (.ref D) (compEnvC scope cl C env))) (fun fin s' => match fin with
                  | .done f => RR (.ref D) C (.ok f) s'
                  | .again c' => c' = .compLoop (flatE x y px py pz iter iter2 scope pos) 0 (.ref I) (.ref D) (compEnvC scope cl C env) ∧ ∃ m_1, m_1 < vs.length + 1 - i ∧ FlatI h₀ L m news s₂ I l D C vs G B m_1 s') (notedBy (model prog w) A (compEnvC scope cl C env) fun e s' => RR (.ref D) C (.error e) s') s'
              | .error e => cameBackBy (model prog w) A (compEnvC scope cl C env) (notedBy (model prog w) A (compEnvC scope cl C env) fun e s' => RR (.ref D) C (.error e) s') e s')
            { s₂ with heap := h₄.push { cls := .type "list_iterator", data := .fields #[.ref d, .int 0 0] }, toks := tk₄ } := by
          refine loop1 hh hkind hy hyd hDC (Nat.ne_of_gt (lt₃ _ _ heC)) (Nat.ne_of_gt (lt₃ _ _ hD₃)) hd₁ hd₂ (Nat.ne_of_lt dlt) hit₄ (hdl.push _) (up _ _ hD₃) ((hoC.ns heC).keeps up) hroom fun h₅ tk₅ m₅ hD₅ hn₅ hk₅ => ?_
          have keep₅ : ∀ b o, h₃.get? b = some o → b ≠ C → b ≠ D → h₅.get? b = some o := fun b o e b1 b2 => hk₅ b o (Nat.ne_of_lt (lt₃ _ _ e)) b1 b2 (up _ _ e)
          refine wpAny_pure ⟨rfl, vs.length + 1 - (i + 1), by omega, i + 1, h₅, tk₅, m₅, yss ++ [ys], rfl, hlt, rfl, ⟨oI, keep₅ _ _ heI₃ hIC hID, rI⟩, ?_, ?_, hn₅, ?_, by rw [List.length_append, hyl]; rfl, fun j zs hj => ?_⟩
          · have hl₃ : h₃.IsList l vs.toArray := hst.2.extBut hs₃.extBut (below l hllt).1
            exact hl₃.at fun o e => keep₅ _ _ e (below l hllt).1 (below l hllt).2
          · exact ⟨F₃.ns.at' fun o e => keep₅ _ _ e (Ne.symm hCL) (Ne.symm hDL), fun b o e => keep₅ _ _ (F₃.keep b o e) (fun q => by rw [q, hC₀] at e; cases e) (fun q => by rw [q, hD₀] at e; cases e), F₃.above⟩
          · intro p hp
            rcases List.mem_cons.mp hp with rfl | hp
            · refine ⟨?_, hDL, hD₀⟩
              rw [hD₅, List.flatten_append]; simp
            · have z := N₃ p (.tail _ (.tail _ (.tail _ hp)))
              exact ⟨keep₅ _ _ z.1 (nb p hp).2.1 (nb p hp).2.2, z.2⟩
          · rcases Nat.lt_trichotomy j yss.length with q | q | q
            · exact hG j zs (by rwa [List.getElem?_append_left q] at hj)
            · subst q; simp at hj; subst hj; exact ⟨hyl ▸ hGi, hyB⟩
            · rw [List.getElem?_eq_none (by rw [List.length_append]; exact q)] at hj; cases hj
        exact start1 inner (wpAny_pyIter_listiter hit₄ inner)
      · obtain rfl : i = vs.length := Nat.le_antisymm hi (Nat.not_lt.mp hlt)
        refine W.done _ _ _ (by rw [List.size_toArray]; exact ⟨hit', hl'⟩) fun h₂ tk₂ hk₂ => ?_
        refine wpAny_pure (hRR D C h₂ tk₂ m' yss (fr_but F' hk₂ hIL hI₀) (news_but N' hk₂ fun p hp => ?_) off3.one (hn'.at' fun o e => hk₂ _ o (by simpa using Ne.symm hIC) e) hC₀ hD₀ hCL hDL (Ne.symm hDC) (fun p hp => (nb p hp).2.1) hyl hG)
        rcases List.mem_cons.mp hp with rfl | hp
        · exact Ne.symm hID
        · exact off p hp
    · obtain ⟨o, e, r⟩ := hit
      exact ⟨o, old _ _ e, r⟩
    · rcases List.mem_cons.mp hp with rfl | hp
      · exact ⟨hacc, hDL, hD₀⟩
      · exact ⟨old _ _ (N p hp).1, (N p hp).2⟩
  exact codeAny_compStart_list (loop _ rfl) (W.self 0 _ _ _ ⟨by obtain ⟨o, e, r⟩ := hit; exact ⟨o, old _ _ e, r⟩, hl.at fun o e => old _ _ e⟩ (loop _ rfl))
end
end
section
open PySem PySem.W PyProof.Rows PySem.Calls
set_option maxRecDepth 100000
open LCg PySem.Spec
section
variable {prog : Program} {w : World} {A : Around} {E : Value → Shared → Prop} {s : Shared} {h₀ : Heap} {m : Str → Option Value} {env : Env}
variable {x y z : Str} {px py pz pw : Pos} {iter iter2 : Expr} {scope : Scope} {pos spos : Pos}
inductive FSrc (prog : Program) (w : World) (A : Around) (h₀ : Heap) (L : Addr) (m : Str → Option Value) (env : Env) (iter2 : Expr) (x : Str) (scope : Scope) (cl : List (Str × Addr)) (Fin : Shared → List Value → List (Addr × Obj) → Prop) (xv : Value) (s₁ : Shared) : Prop
  | mk (l : Addr) (vs : List Value) (news : List (Addr × Obj)) (G : Nat → List Value → Prop) (B : Nat) : xv = .ref l → A.handled = none → Fr h₀ L s₁.heap m → News h₀ L s₁.heap news → s₁.heap.IsList l vs.toArray → vs.length * B ≤ sizeLine → (∀ s₂ : Shared, (∃ h, s₂ = { s₁ with heap := h }) → ∀ i v I oI C oC D m₂ acc h tk (E' : Value → Shared → Prop), vs[i]? = some v → NsObj oC m₂ → m₂ x = some v → Fr h₀ L h m → News h₀ L h ((I, oI) :: (C, oC) :: (D, lst acc) :: news) → Off3 I C D news → ((@Ne Nat I C) ∧ (@Ne Nat I D) ∧ (@Ne Nat C D)) → wpAny (model prog w) A (eval iter2 (compEnvC scope cl C env)) (Inner s₂ h C D (G i) B) E' { s₂ with heap := h, toks := tk }) → (∀ s₂ : Shared, (∃ h, s₂ = { s₁ with heap := h }) → ∀ yss : List (List Value), yss.length = vs.length → (∀ i ys, yss[i]? = some ys → G i ys ∧ ys.length ≤ B) → Fin s₂ (List.flatten yss) news) → FSrc prog w A h₀ L m env iter2 x scope cl Fin xv s₁
theorem Assign_flat {cl : List (Str × Addr)} {Q : Flow → Shared → Prop} (F₀ : Fr h₀ env.locals s.heap m)
    (hsw : swapsWith (flatE x y px py pz iter iter2 scope pos) (some (.Name z pw)) spos.line env = pure true)
    (hclos : closureFor scope env = pure cl) (hcell : ∀ z ∈ scope.names, z.2 ≠ .cell) (hkind : scope.kind = .function)
    (hnames : ∀ z ∈ scope.names, z.2 = .local → scope.names.lookup z.1 = some .local) (hx : scope.names.lookup x = some .local) (hy : scope.names.lookup y = some .local) (hyd : (y == ("__debug__" : Str)) = false)
    (hz : env.kindOf z = some .local) (hp : (env.scope.kind == .class || (env.scope.kind == .module && env.locals != env.globals)) = false)
    (h : wpAny (model prog w) A (eval iter env) (FSrc prog w A h₀ env.locals m env iter2 x scope cl (fun s₂ => FinA h₀ env.locals m s₂ z Q)) E s)
    (hs : ∀ x, foldedSetIterable iter env x = pure x := by intro _; rfl) (hs2 : ∀ env' z, foldedSetIterable iter2 env' z = pure z := by intro _ _; rfl) :
    wpAny (model prog w) A (exec (.Assign [.Name z pw] (flatE x y px py pz iter iter2 scope pos) spos) env) Q E s := by
  rw [exec_Assign_Name_used _ _ _ _ hsw]
  refine wpAny_bind (wpAny_standAt (wpAny_bind ?_))
  show wpAny _ A (do let _ ← comprehension (flatE x y px py pz iter iter2 scope pos) scope env _ (newList []) false (eval iter env) (some (assign (.Name z pw) env))) _ _ s
  refine wpAny_bind (wpAny_mono (wpAny_comprehension_free (use := some (assign (.Name z pw) env)) (Q := fun _ s' => Q .next s') rfl hs hclos hkind hnames
    (wpAny_mono h (fun xv s₁ h₁ => ?_) fun _ _ e => e)) (fun _ s' hq => wpAny_pure (wpAny_pure hq)) fun _ _ e => e)
  obtain ⟨l, vs, news, G, B, rfl, hh, F, N, hl, hB, helt, hfin⟩ := h₁
  have hlt : l < s₁.heap.objs.size := by obtain ⟨_, e, _⟩ := hl; exact Heap.lt_size e
  refine wpAny_pyIter_list hl ?_
  have up : ∀ b o, s₁.heap.get? b = some o → (s₁.heap.push { cls := .type "list_iterator", data := .fields #[.ref l, .int 0 0] }).get? b = some o := fun b o e => Heap.get?_push_of_some _ e
  refine block_flat hh hcell hkind hx hy hyd hs2 ⟨_, Heap.get?_push_size _ rfl, rfl, rfl⟩ (hl.push _) (Nat.ne_of_lt hlt) (F.keeps up) (N.grown up) (Nat.ne_of_lt F.ns.lt) (next_is_new F) (fun p hp => Nat.ne_of_lt (Heap.lt_size (N p hp).1)) hB (helt _ ⟨_, rfl⟩) ?_
  intro D C h tk m' yss F' N' o1 hn hC₀ hD₀ hCL hDL hCD offC hyl hG
  have fin := hfin { s₁ with heap := s₁.heap.push { cls := .type "list_iterator", data := .fields #[.ref l, .int 0 0] } } ⟨_, rfl⟩ yss hyl hG
  show wpAny _ A (assign (.Name z pw) env (.ref D)) _ _ _
  refine wpAny_assign_Name (wpAny_storeName_local hz F'.ns (fun h₂ hn₂ hs₂ => ?_) hp)
  have hL₀ : h₀.get? env.locals = none := Heap.get?_none_of_le F'.above
  have F₂ : Fr h₀ env.locals h₂ (fun q => if q = z then some (.ref D) else m q) := ⟨hn₂, fun b o e => hs₂.extBut b o (fun q => by rw [q, hL₀] at e; cases e) (F'.keep b o e), F'.above⟩
  refine ⟨m', hn.sameBut hs₂ hCL, fun h'' hs'' => fin D h'' _ (F₂.change hs'' hCL hC₀) (fun p hp => ?_) o1⟩
  have q : h₂.get? p.1 = some p.2 := hs₂.extBut _ _ (N' p hp).2.1 (N' p hp).1
  refine ⟨hs''.extBut _ _ ?_ q, (N' p hp).2⟩
  rcases List.mem_cons.mp hp with rfl | hp
  · exact Ne.symm hCD
  · exact offC p hp
end
end
section
open PySem PySem.W PyProof.Rows PySem.Calls
set_option maxRecDepth 100000
inductive ConstsAre : List Expr → List Str → Prop
  | nil : ConstsAre [] []
  | cons {es : List Expr} {xs : List Str} {x : Str} {k : Nat} {p : Pos} : ConstsAre es xs → ConstsAre (.Constant (.str x) k p :: es) (x :: xs)
inductive RowsAre : List Expr → List (List Str) → Prop
  | nil : RowsAre [] []
  | cons {es rs : List Expr} {xs : List Str} {xss : List (List Str)} {p : Pos} : ConstsAre es xs → RowsAre rs xss → RowsAre (.List es p :: rs) (xs :: xss)
section
variable {prog : Program} {w : World} {A : Around} {E : Value → Shared → Prop} {env : Env} {pos : Pos} {g : Array GenState} {dr : Drawn} {os : OsState}
theorem consts_items {es : List Expr} {xs : List Str} (c : ConstsAre es xs) : ∀ {h : Heap} {t : Nat} {Q : List Value → Shared → Prop}, (∀ t' vs, StrsAre vs xs → Q vs ⟨h, g, dr, t', os⟩) →
    wpAny (model prog w) A (spliced (backTo pos (starEach es env))) Q E ⟨h, g, dr, t, os⟩ := by
  induction c with
  | nil => intro h t Q hq; exact args_nil (hq t [] .nil)
  | cons _ ih =>
    intro h t Q hq
    refine args_cons (wpAny_Constant_str (ih fun t' vs hv => hq t' _ (.cons _ _ hv)))
theorem rows_items {es : List Expr} {xss : List (List Str)} (c : RowsAre es xss) : (∀ xs ∈ xss, xs.length ≤ 100) → ∀ {h : Heap} {t : Nat} {Q : List Value → Shared → Prop},
    (∀ h' t' vs, (∀ b o, h.get? b = some o → h'.get? b = some o) → vs.length = xss.length → (∀ (j : Nat) xs, xss[j]? = some xs → ∃ a us n, vs[j]? = some (.ref a) ∧ h.get? a = none ∧ h'.get? a = some (W.listOf us n) ∧ StrsAre us.toList xs) → Q vs ⟨h', g, dr, t', os⟩) →
    wpAny (model prog w) A (spliced (backTo pos (starEach es env))) Q E ⟨h, g, dr, t, os⟩ := by
  induction c with
  | nil => intro _ h t Q hq; exact args_nil (hq h t [] (fun _ _ e => e) rfl fun j xs hj => by simp at hj)
  | @cons es rs xs xss p hc hr ih =>
    intro hlen' h t Q hq
    have hlen := hlen' xs (.head _)
    have ih := @ih fun xs hx => hlen' xs (.tail _ hx)
    refine args_cons (List_ (consts_items hc fun t' us hus => ?_))
    refine wpAny_newObj_type ?_ (by show us.toArray.size ≤ sizeLine; rw [List.size_toArray, hus.length, sizeLine_eq]; omega)
    refine ih fun h' t' vs hk hl hI => ?_
    refine hq h' t' _ (fun b o e => hk b o (Heap.get?_push_of_some _ e)) (by rw [List.length_cons, List.length_cons, hl]) fun j xs' hj => ?_
    cases j with
    | zero =>
      cases hj
      refine ⟨h.objs.size, us.toArray, _, rfl, Heap.get?_none_of_le (Nat.le_refl _), hk _ _ (Heap.get?_push_size _ rfl), by simpa using hus⟩
    | succ j =>
      obtain ⟨a, us', n, e1, e2, e3, e4⟩ := hI j xs' hj
      refine ⟨a, us', n, e1, ?_, e3, e4⟩
      cases e : h.get? a with
      | none => rfl
      | some o => have := Heap.get?_push_of_some { cls := .type "list", dict := none, data := .seq us.toArray } e; exact absurd (this.symm.trans e2) (by simp)
end
end
section
open PySem PySem.W PyProof.Rows PySem.Calls
set_option maxRecDepth 100000
section
variable {prog : Program} {w : World} {A : Around} {E : Value → Shared → Prop} {s : Shared} {env : Env} {h₀ : Heap} {x : Str} {body : List Stmt} {Q : Flow → Shared → Prop} {m₀ : Str → Option Value} {news : List (Addr × Obj)}
theorem off_lists {h' : Heap} {L : Addr} {own nx news' : List (Addr × Obj)} (N : News h₀ L h' news') (hn : ∀ p ∈ nx, p ∈ news') (ho : ∀ p ∈ own, p ∈ news') (hown : ∀ p ∈ own, p.2.cls ≠ .type "list") (hnx : ∀ p ∈ nx, p.2.cls = .type "list") : OwnOff own (nx.map (·.1)) := by
  intro p hp b hb e
  obtain ⟨q, hq, rfl⟩ := List.mem_map.mp hb
  have h1 := (N p (ho p hp)).1
  have h2 := (N q (hn q hq)).1
  rw [e, h2] at h1
  exact hown p hp (by rw [← Option.some.inj h1]; exact hnx q hq)
theorem iter_rangeG {r : Addr} {a₀ b₀ c : Int} {t₀ u₀ v₀ : Tok} {n : Nat} (J : Nat → (Str → Option Value) → List (Addr × Obj) → Prop)
    (hh : A.handled = none) (hr : IsRange s.heap r a₀ b₀ c t₀ u₀ v₀) (hsmall : Builtin.Range.small a₀ b₀ c = true) (hn : Builtin.Range.rangeSize a₀ b₀ c = (n : Int)) (F : Fr h₀ env.locals s.heap m₀) (N : News h₀ env.locals s.heap news) (hj : J 0 m₀ news)
    (turn : ∀ (i : Nat) t m₁ news₁ h tk own, i < n → (∀ p ∈ own, p.2.cls ≠ Value.type "list") → J i m₁ news₁ → Fr h₀ env.locals h (fun y => if y = x then some (.int (a₀ + i * c) t) else m₁ y) → News h₀ env.locals h (news₁ ++ own) →
      wpAny (model prog w) A (execs body env) (InvPostG h₀ env.locals (J (i + 1)) own { s with heap := h, toks := tk } Q) E { s with heap := h, toks := tk })
    (done : ∀ m₁ news₁ h tk, J n m₁ news₁ → Fr h₀ env.locals h m₁ → News h₀ env.locals h news₁ → Q .next { s with heap := h, toks := tk }) :
    wpAny (model prog w) A (pyIter (.ref r)) (fun it s₂ => LoopAtV prog w A h₀ env x body Q E it s₂) E s := by
  refine wpAny_pyIter_range hr hsmall ?_
  have W : Walks prog w A s.heap.objs.size [s.heap.objs.size] [s.heap.objs.size] n (fun i v => i < n ∧ ∃ t, v = .int (a₀ + i * c) t)
      (fun i h => IsRangeIter h s.heap.objs.size (a₀ + (i : Nat) * c) ((n : Int) - (i : Nat)) c) := (Walks.range hh _ a₀ c n).bound
  refine ⟨_, _, _, n, _, _, m₀, news, J, rfl, W, ?_, ?_, ?_, (by show IsRangeIter _ _ _ _ _; rw [hn]; simpa using Heap.get?_push_size _ rfl), F.push _, (fun p hp => ⟨Heap.get?_push_of_some _ (N p hp).1, (N p hp).2⟩), hj, ?_, ?_⟩
  · intro hm
    exact absurd F.ns.lt ((List.mem_singleton.mp hm) ▸ Nat.lt_irrefl _)
  · intro b hb
    rw [List.mem_singleton.mp hb]
    exact next_is_new F
  · intro p hp hI
    exact absurd (Heap.lt_size (N p hp).1) ((List.mem_singleton.mp hI) ▸ Nat.lt_irrefl _)
  · rintro i v m₁ news₁ s₁ own ⟨hh', tk', rfl⟩ hin ⟨_, t, rfl⟩ hJ hoff hown hat hfp hst F₁ N₁
    have hI0 : h₀.get? s.heap.objs.size = none := next_is_new F
    have hoI : hh'.get? s.heap.objs.size = some _ := hst
    have hIown : (s.heap.objs.size, _) ∈ own := hfp _ (List.mem_singleton.mpr rfl) hI0 _ hoI
    have hcls : ∀ p ∈ own, p.2.cls ≠ Value.type "list" := fun p hp => by
      have e1 := hat p hp
      rw [List.mem_singleton.mp (hown p hp)] at e1
      rw [hoI] at e1
      rw [← Option.some.inj e1]
      show Value.type "range_iterator" ≠ Value.type "list"
      decide
    have N₂ : News h₀ env.locals hh' (news₁ ++ own) := fun p hp => N₁ p ((List.mem_append.mp hp).elim (fun h => List.mem_append.mpr (.inr h)) fun h => List.mem_append.mpr (.inl h))
    refine wpAny_mono (turn i t m₁ news₁ hh' tk' own hin hcls hJ F₁ N₂) (fun f s₂ p => ?_) fun _ _ e => e
    have fin : InvEndG h₀ env.locals (J (i + 1)) own { s with heap := hh', toks := tk' } s₂ → LoopStepU h₀ env.locals [s.heap.objs.size] own (J (i + 1)) { s with heap := hh', toks := tk' } .next s₂ := by
      rintro ⟨h', tk, m', news', nx, e, F', N', hn, ho, ha, hm⟩
      refine ⟨rfl, h', tk, m', nx, e, F', fun p hp => N' p ((List.mem_append.mp hp).elim (ho p) (hn p)), fun p hp hq => ?_, hm⟩
      exact ha _ hIown p.1 (List.mem_map.mpr ⟨p, hp, rfl⟩) (List.mem_singleton.mp hq).symm
    cases f with
    | ret v => exact .ret p
    | brk => exact .brk p
    | next => exact .next (fin p)
    | cont => exact .cont (fin p)
  · rintro h' tk m' news' F' N' _ hJ
    exact done m' news' h' tk hJ F' N'
end
theorem news_two {h₀ h : Heap} {L : Addr} {a b : Addr × Obj} {r : List (Addr × Obj)} (N : News h₀ L h (a :: b :: r)) : News h₀ L h [a, b] := fun p hp => by
  rcases List.mem_cons.mp hp with rfl | hp
  · exact N _ (.head _)
  · rw [List.mem_singleton.mp hp]; exact N _ (.tail _ (.head _))
theorem sub_tup {prog : Program} {w : World} {A : Around} {E : Value → Shared → Prop} {s : Shared} {value slice : Expr} {t : Addr} {vs : Array Value} {k : Int} {u : Tok} {v : Value} {Q : Value → Shared → Prop} (ht : IsTup s.heap t vs) (h0 : 0 ≤ k) (h1 : k < 100) (hx : vs[k.toNat]? = some v) (h : Q v s)
    (hs : subscripted slice false (.ref t) (.int k u) = operate [.ref t, .int k u] (getItem (.ref t) (.int k u)) := by with_unfolding_all rfl) (hg : ∀ r, letTemporaryGo value (.ref t) r = pure () := by intro _; with_unfolding_all rfl) :
    wpAny (model prog w) A (subscriptTail value slice (.ref t) (.int k u)) Q E s := by
  have hlt : k.toNat < vs.size := (Array.getElem?_eq_some_iff.mp hx).1
  refine item_tuple ht (by omega) (by omega) ?_ hx h hs hg
  unfold seqIndex?
  simp only [if_neg (Int.not_lt.mpr h0)]
  rw [if_pos]
  simp only [Bool.and_eq_true, decide_eq_true_eq]
  omega
theorem range_pow {n : Nat} (h0 : 0 < n) (h1 : n ≤ 5) : Builtin.Range.small 1 (2 ^ ((n : Int)).toNat) 1 = true ∧ Builtin.Range.rangeSize 1 (2 ^ ((n : Int)).toNat) 1 = ((2 ^ n - 1 : Nat) : Int) := by
  have : n = 1 ∨ n = 2 ∨ n = 3 ∨ n = 4 ∨ n = 5 := by omega
  rcases this with rfl | rfl | rfl | rfl | rfl <;> decide
theorem slice_drop (x0 : Nat) (l : List Nat) : Txt.slice (ofL (x0 :: l)) (some 1) none = ofL l := by
  have e : (ofL (x0 :: l)).length = l.length + 1 := by rw [ofL_length, List.length_cons]
  rw [slice_from_eq (b := ((ofL (x0 :: l)).length : Int)) (by decide) (by rw [e]; omega) rfl, e]
  have h1 : (ofL (x0 :: l)).cps.toList = x0 :: l := by simp [ofL]
  have h2 : (((l.length + 1 : Nat) : Int) - 1).toNat = l.length := by omega
  rw [h1, h2]
  show (⟨(l.take l.length).toArray⟩ : Str) = _
  rw [List.take_length]; rfl
theorem slice_one {prog : Program} {w : World} {A : Around} {E : Value → Shared → Prop} {value slice : Expr} {h₀ h : Heap} {L : Addr} {m : Str → Option Value} {news : List (Addr × Obj)} {g : Array GenState} {dr : Drawn} {t : Nat} {os : OsState} {x0 : Nat} {l : List Nat} {tx ui : Tok} {Q : Value → Shared → Prop}
    (F : Fr h₀ L h m) (N : News h₀ L h news) (hl : l.length ≤ 100) (hq : ∀ h' t' k, Fr h₀ L h' m → News h₀ L h' news → Q (.str (ofL l) t') ⟨h', g, dr, k, os⟩)
    (hs : subscripted slice false (.str (ofL (x0 :: l)) tx) (.ref h.objs.size) = operate [.ref h.objs.size, .str (ofL (x0 :: l)) tx] (getItem (.str (ofL (x0 :: l)) tx) (.ref h.objs.size)) := by with_unfolding_all rfl)
    (ht : ∀ r, letTemporaryGo value (.str (ofL (x0 :: l)) tx) r = pure () := by intro _; with_unfolding_all rfl) :
    wpAny (model prog w) A (subscriptTail value slice (.str (ofL (x0 :: l)) tx) (.ref h.objs.size)) Q E ⟨h.push { cls := .type "slice", data := .fields #[.int 1 ui, .none, .none] }, g, dr, t, os⟩ :=
  slice_strN_sn (s := ⟨h, g, dr, t, os⟩) F N (fun h' t' k a b => by rw [slice_drop]; exact hq h' t' k a b) hs ht (by rw [ofL_length, List.length_cons, sizeLine_eq]; omega)
theorem news_add {h₀ h h' : Heap} {L d : Addr} {m : Str → Option Value} {o : Obj} {news : List (Addr × Obj)} (F : Fr h₀ L h m) (N : News h₀ L h' news) (h1 : h.get? d = none) (h2 : h'.get? d = some o) : News h₀ L h' ((d, o) :: news) := fun p hp => by
  rcases List.mem_cons.mp hp with rfl | hp
  · refine ⟨h2, fun q => ?_, ?_⟩
    · obtain ⟨o', _, _, e, _⟩ := F.ns
      rw [← q, h1] at e; cases e
    · cases e : h₀.get? d with
      | none => rfl
      | some o' => have := F.keep _ _ e; rw [h1] at this; cases this
  · exact N p hp
theorem endG_6 {h₀ h' : Heap} {L : Addr} {m' : Str → Option Value} {J : (Str → Option Value) → List (Addr × Obj) → Prop} {own : List (Addr × Obj)} {x a b c d y : Addr × Obj} {s₁ : Shared} {tk : Nat} (F : Fr h₀ L h' m') (N : News h₀ L h' (x :: a :: b :: c :: d :: y :: own))
    (hown : ∀ p ∈ own, p.2.cls ≠ .type "list") (hx : x.2.cls = .type "list") (hy : y.2.cls = .type "list") (hj : J m' [x, y]) : InvEndG h₀ L J own s₁ { s₁ with heap := h', toks := tk } := by
  have hn : ∀ p ∈ [x, y], p ∈ x :: a :: b :: c :: d :: y :: own := fun p hp => by
    rcases List.mem_cons.mp hp with rfl | hp
    · exact .head _
    · rw [List.mem_singleton.mp hp]; exact .tail _ (.tail _ (.tail _ (.tail _ (.tail _ (.head _)))))
  have ho : ∀ p ∈ own, p ∈ x :: a :: b :: c :: d :: y :: own := fun p hp => .tail _ (.tail _ (.tail _ (.tail _ (.tail _ (.tail _ hp)))))
  refine InvEndG.intro F N hj (off_lists N hn ho hown fun p hp => ?_) hn ho
  rcases List.mem_cons.mp hp with rfl | hp
  · exact hx
  · rw [List.mem_singleton.mp hp]; exact hy
theorem news_13 {h₀ h : Heap} {L : Addr} {a b c : Addr × Obj} {r : List (Addr × Obj)} (N : News h₀ L h (a :: b :: c :: r)) : News h₀ L h [a, c] := fun p hp => by
  rcases List.mem_cons.mp hp with rfl | hp
  · exact N _ (.head _)
  · rw [List.mem_singleton.mp hp]; exact N _ (.tail _ (.tail _ (.head _)))
theorem news_14 {h₀ h : Heap} {L : Addr} {a b c d : Addr × Obj} {r : List (Addr × Obj)} (N : News h₀ L h (a :: b :: c :: d :: r)) : News h₀ L h [a, d] := fun p hp => by
  rcases List.mem_cons.mp hp with rfl | hp
  · exact N _ (.head _)
  · rw [List.mem_singleton.mp hp]; exact N _ (.tail _ (.tail _ (.tail _ (.head _))))
theorem cat_ints {prog : Program} {w : World} {A : Around} {E : Value → Shared → Prop} {h₀ h : Heap} {L a b : Addr} {m : Str → Option Value} {news : List (Addr × Obj)} {g : Array GenState} {dr : Drawn} {t : Nat} {os : OsState} {vs ws : List Value} {ns ms : List Int} {na nb : Nat} {Q : Value → Shared → Prop}
    (F : Fr h₀ L h m) (N : News h₀ L h news) (ha : (a, W.listOf vs.toArray na) ∈ news) (hb : (b, W.listOf ws.toArray nb) ∈ news) (hi : IntsAre vs ns) (hj : IntsAre ws ms) (hz : ns.length + ms.length ≤ 1000000)
    (hq : ∀ D us h', Fr h₀ L h' m → News h₀ L h' ((D, W.listOf (List.toArray us) 0) :: news) → IntsAre us (ns ++ ms) → Q (.ref D) ⟨h', g, dr, t, os⟩) : wpAny (model prog w) A (binaryOp .Add (.ref a) (.ref b)) Q E ⟨h, g, dr, t, os⟩ :=
  kmk_add_ints (s := ⟨h, g, dr, t, os⟩) F N (News.isList N ha) (News.isList N hb) hi hj (fun D us h' F' N' _ hu => hq D us h' F' N' hu) (by rw [sizeLine_eq]; omega)
end
section
open PySem PySem.W PyProof.Rows PySem.Calls
set_option maxRecDepth 100000
theorem store_cell {M : Model} {A : Around} {E : Value → Shared → Prop} {h₀ h : Heap} {L f c : Addr} {m : Str → Option Value} {cn : Str} {cs : Scope} {ccd : Value} {cl : List (Str × Addr)} {g : Array GenState} {dr : Drawn} {t : Nat} {os : OsState} {x : Str} {v : Value} {Q : Unit → Shared → Prop} {a : Addr × Obj} {oc : Obj} {rest : List (Addr × Obj)} {v₀ : Option Value}
    (F : Fr h₀ L h m) (N : News h₀ L h (a :: (c, oc) :: rest)) (ha : a.1 ≠ c) (hr : ∀ p ∈ rest, p.1 ≠ c) (hd : oc.data = .cell v₀)
    (hq : ∀ h' o', Fr h₀ L h' m → News h₀ L h' (a :: (c, o') :: rest) → o'.data = .cell (some v) → Q () ⟨h', g, dr, t, os⟩)
    (hc : cl.lookup x = some c := by rfl) (hk : cs.kind = .function := by rfl) (hx : (envX cn cs L f ccd cl).kindOf x = some .cell := by rfl) : wpAny M A (storeName (envX cn cs L f ccd cl) x v) Q E ⟨h, g, dr, t, os⟩ :=
  storeX_C (s := ⟨h, g, dr, t, os⟩) F N hc (.tail ha (.head hr)) hd (fun h' o' F' N' hd' => hq h' o' F' N' hd') hk hx
noncomputable def Made (R : Int → Obj → Prop) (xs : List Int) (ys : List Value) (objs : List (Addr × Obj)) : Prop := ys.length = xs.length ∧ ∀ (j : Nat) x, xs[j]? = some x → ∃ d o, ys[j]? = some (.ref d) ∧ (d, o) ∈ objs ∧ R x o
theorem Made.nil {R : Int → Obj → Prop} : Made R [] [] [] := ⟨rfl, fun j x h => by simp at h⟩
theorem Made.snoc {R : Int → Obj → Prop} {xs : List Int} {ys : List Value} {objs : List (Addr × Obj)} {x : Int} {d : Addr} {o : Obj} (M : Made R xs ys objs) (r : R x o) : Made R (xs ++ [x]) (ys ++ [.ref d]) ((d, o) :: objs) := by
  refine ⟨by rw [List.length_append, List.length_append, M.1]; rfl, fun j x' hj => ?_⟩
  rcases Nat.lt_trichotomy j xs.length with h | h | h
  · rw [List.getElem?_append_left h] at hj
    obtain ⟨d', o', e, hm, hr⟩ := M.2 j x' hj
    exact ⟨d', o', by rw [List.getElem?_append_left (by rw [M.1]; exact h)]; exact e, .tail _ hm, hr⟩
  · subst h
    simp at hj
    subst hj
    exact ⟨d, o, by rw [← M.1]; simp, .head _, r⟩
  · rw [List.getElem?_eq_none (by rw [List.length_append]; exact h)] at hj; cases hj
noncomputable def MadeJ (R : Int → Obj → Prop) (xs : List Int) (base : List (Addr × Obj)) (i : Nat) (ys : List Value) (news : List (Addr × Obj)) : Prop :=
  ∃ objs, news = objs ++ base ∧ Made R (xs.take i) ys objs ∧ ∀ p ∈ objs, ∀ q ∈ base, p.1 ≠ q.1
theorem MadeJ.zero {R : Int → Obj → Prop} {xs : List Int} {base : List (Addr × Obj)} : MadeJ R xs base 0 [] base := ⟨[], rfl, .nil, fun _ h => nomatch h⟩
theorem made_end {R : Int → Obj → Prop} {xs : List Int} {base : List (Addr × Obj)} {i : Nat} {ys : List Value} {news : List (Addr × Obj)} {h₀ h h' : Heap} {L I C D d : Addr} {oI oC oD o : Obj} {m : Str → Option Value} {s₁ : Shared} {S : List (Addr × Obj) → Prop} {x : Int} {tk : Nat}
    (J : MadeJ R xs base i ys news) (hx : xs[i]? = some x) (F : Fr h₀ L h m) (N : News h₀ L h ((I, oI) :: (C, oC) :: (D, oD) :: news)) (off : LCg.Off3 I C D news) (F' : Fr h₀ L h' m) (N' : News h₀ L h' ((I, oI) :: (C, oC) :: (D, oD) :: news))
    (h1 : h.get? d = none) (h2 : h'.get? d = some o) (r : R x o) (hS : ∀ nw, (∀ p ∈ base, p ∈ nw) → S nw) :
    LCg.CompEnd h₀ L m s₁ I oI C oC D oD S (fun y news' => MadeJ R xs base (i + 1) (ys ++ [y]) news') (.ref d) { s₁ with heap := h', toks := tk } := by
  obtain ⟨objs, rfl, hm, hoff⟩ := J
  have ne : ∀ p ∈ (I, oI) :: (C, oC) :: (D, oD) :: (objs ++ base), d ≠ p.1 := fun p hp q => by
    have := (N p hp).1; rw [← q, h1] at this; cases this
  have N2 := news_add F N' h1 h2
  refine LCg.CompEnd.intro F' N2 ((d, o) :: (objs ++ base)) (fun p hp => ?_) ⟨⟨ne (I, oI) (.head _), ne (C, oC) (.tail _ (.head _)), ne (D, oD) (.tail _ (.tail _ (.head _)))⟩, off⟩ (hS _ fun p hp => .tail _ (List.mem_append_right _ hp)) ⟨(d, o) :: objs, rfl, ?_, ?_⟩
  · rcases List.mem_cons.mp hp with rfl | hp
    · exact .tail _ (.head _)
    · rcases List.mem_cons.mp hp with rfl | hp
      · exact .tail _ (.tail _ (.head _))
      · rcases List.mem_cons.mp hp with rfl | hp
        · exact .tail _ (.tail _ (.tail _ (.head _)))
        · rcases List.mem_cons.mp hp with rfl | hp
          · exact .head _
          · exact .tail _ (.tail _ (.tail _ (.tail _ hp)))
  · rw [List.take_add_one, hx]
    exact hm.snoc r
  · intro p hp q hq
    rcases List.mem_cons.mp hp with rfl | hp
    · exact ne q (.tail _ (.tail _ (.tail _ (List.mem_append_right _ hq))))
    · exact hoff p hp q hq
noncomputable def IntsJ (zs : List Int) (base : List (Addr × Obj)) (i : Nat) (ys : List Value) (news : List (Addr × Obj)) : Prop := news = base ∧ IntsAre ys (zs.take i)
theorem IntsJ.zero {zs : List Int} {base : List (Addr × Obj)} : IntsJ zs base 0 [] base := ⟨rfl, .nil⟩
theorem ints_end {zs : List Int} {base : List (Addr × Obj)} {i : Nat} {ys : List Value} {news : List (Addr × Obj)} {h₀ h' : Heap} {L I C D : Addr} {oI oC oD : Obj} {m : Str → Option Value} {s₁ : Shared} {S : List (Addr × Obj) → Prop} {z : Int} {t : Tok} {tk : Nat}
    (J : IntsJ zs base i ys news) (hz : zs[i]? = some z) (off : LCg.Off3 I C D news) (F' : Fr h₀ L h' m) (N' : News h₀ L h' ((I, oI) :: (C, oC) :: (D, oD) :: news)) (hS : S base) :
    LCg.CompEnd h₀ L m s₁ I oI C oC D oD S (fun y news' => IntsJ zs base (i + 1) (ys ++ [y]) news') (.int z t) { s₁ with heap := h', toks := tk } := by
  obtain ⟨rfl, hi⟩ := J
  refine LCg.CompEnd.intro F' N' _ (fun p hp => hp) off hS ⟨rfl, ?_⟩
  rw [List.take_add_one, hz]
  exact hi.append (.cons _ _ .nil)
end
section
open PySem PySem.W PyProof.Rows PySem.Calls
noncomputable def Does (w : World) (k : Nat) (f : Addr) (vals : List Value) (kw : List (Str × Value)) (Pre : Heap → Prop) (Post : Heap → Value → Heap → Prop) : Prop :=
  ∀ (p : Program) (loose : List Str) (mean : ExcName → Option Value) (mg mb : Str → Option Value) (dp un : Nat) (gd : Option (List Code)) (cn : Str) (cs : Scope) (a : Addr) (ccd : Value) (cl : List (Str × Addr)) (outer : List Env) (A₀ : Around) (base h₀ : Heap) (L : Addr) (m : Str → Option Value) (s : Shared) (Q E : Value → Shared → Prop),
    Below A₀ base outer h₀ → Fr h₀ L s.heap m → (H0.heap_1 w.params).In h₀ → Top p loose mean mg mb h₀ → cs.kind = .function → dp + k < recursionLimit → un + 8 * k < cLine → Pre s.heap →
    (∀ v h' tk', s.heap.StaysIn h' → Post s.heap v h' → Q v { s with heap := h', toks := tk' }) →
    wpAny (model PySem.Challenge.rw_pa0043_02.row.prog w) (ktrTop dp un gd cn cs L a ccd cl outer) (call (.ref f) vals kw) Q E s

theorem Does.use {w : World} {k : Nat} {f : Addr} {vals : List Value} {kw : List (Str × Value)} {Pre : Heap → Prop} {Post : Heap → Value → Heap → Prop} (D : Does w k f vals kw Pre Post)
    {p : Program} {loose : List Str} {mean : ExcName → Option Value} {mg mb : Str → Option Value} {dp un : Nat} {gd : Option (List Code)} {cn : Str} {cs : Scope} {a : Addr} {ccd : Value} {cl : List (Str × Addr)} {outer : List Env} {A₀ : Around} {base h₀ : Heap} {L : Addr} {m : Str → Option Value} {s : Shared} {Q E : Value → Shared → Prop} {news : List (Addr × Obj)}
    (B : Below A₀ base outer h₀) (F : Fr h₀ L s.heap m) (N : News h₀ L s.heap news) (X : (H0.heap_1 w.params).In h₀) (T : Top p loose mean mg mb h₀) (hk : cs.kind = .function) (hr : dp + k < recursionLimit) (hu : un + 8 * k < cLine) (hp : Pre s.heap)
    (h : ∀ v h' tk', s.heap.StaysIn h' → Fr h₀ L h' m → News h₀ L h' news → Post s.heap v h' → Q v { s with heap := h', toks := tk' }) :
    wpAny (model PySem.Challenge.rw_pa0043_02.row.prog w) (ktrTop dp un gd cn cs L a ccd cl outer) (call (.ref f) vals kw) Q E s :=
  D _ _ _ _ _ _ _ _ _ _ _ _ _ _ _ _ _ _ _ _ _ _ B F X T hk hr hu hp fun v h' tk' st hp' => h v h' tk' st (F.keptAll st) (N.grown st) hp'

inductive Back (h₀ : Heap) (Post : Heap → Value → Heap → Prop) (s : Shared) (v : Value) (s' : Shared) : Prop
  | mk (h' : Heap) (tk' : Nat) : s' = { s with heap := h', toks := tk' } → h₀.StaysIn h' → Post h₀ v h' → Back h₀ Post s v s'

theorem does_of {w : World} {k : Nat} {Pre : Heap → Prop} {Post : Heap → Value → Heap → Prop}
    {name qual : Str} {params : Arguments} {body : List Stmt} {scope : Scope} {dV kV doc pm cdv ct oc : Value} {an od : Option Addr} {osl : Array (Option Value)} {f : Addr} {vals : List Value} {kw : List (Str × Value)} (binds : List (Str × Value))
    (ho : (H0.heap_1 w.params).lookup f = some ⟨oc, od, .func (fnOf name qual params body scope dV kV doc pm an cdv ct), osl⟩) (hcd : codeIn (H0.heap_1 w.params) cdv qual = true)
    (hbind : ∀ s : Shared, (H0.heap_1 w.params).In s.heap → BindsTo s (fnOf name qual params body scope dV kV doc pm an cdv ct) ⟨vals, kw⟩ binds) (hloc : ∀ y ∈ binds, scope.names.lookup y.1 = some .local)
    (hk0 : 0 < k)
    (h : ∀ (p : Program) (loose : List Str) (mean : ExcName → Option Value) (mg mb : Str → Option Value) (dp un : Nat) (gd : Option (List Code)) (cn : Str) (cs : Scope) (L a : Addr) (ccd : Value) (cl : List (Str × Addr)) (outer : List Env) (base : Heap) (s : Shared) (L' : Addr) (h₁ : Heap),
      dp + k < recursionLimit → un + 8 * k < cLine → Pre s.heap →
      Fr s.heap L' h₁ (fun y => binds.reverse.lookup y) → News s.heap L' h₁ [] → Below (ktrTop dp un gd cn cs L a ccd cl outer) base (envX cn cs L a ccd cl :: outer) s.heap → (H0.heap_1 w.params).In s.heap → Top p loose mean mg mb s.heap →
      let ev := envOf qual scope L' f cdv; let A := (ktrTop dp un gd cn cs L a ccd cl outer).deeper ev
      wpAny (model PySem.Challenge.rw_pa0043_02.row.prog w) A (execs body ev)
        (fun fl s' => Back s.heap Post s (match fl with | .ret v => v | _ => .none) s') (fun _ _ => False)
        { s with heap := h₁, toks := s.toks + binds.length })
    (hco : scope.isCoroutine = false) (hgen : scope.isGenerator = false) (hk2 : scope.kind = .function) (hcell : ∀ x ∈ scope.names, x.2 ≠ .cell) :
    Does w k f vals kw Pre Post := by
  intro p loose mean mg mb dp un gd cn cs a ccd cl outer A₀ base h₀ L m s Q E B F X T hk hroom hun hpre hret
  refine wpAny_call ?_
  obtain ⟨FG, BG, st, lv⟩ := groundX (A := ktrTop dp un gd cn cs L a ccd cl outer) (env := envX cn cs L a ccd cl) (R := fun r s' => match r with | .ok (.ret v) => Q v s' | .ok _ => False | .error e => E e s') B F (News.nil) rfl rfl hk
  refine codeAny_call_def (fd := fnOf name qual params body scope dV kV doc pm an cdv ct) (body := body) (binds := binds) (by show dp < recursionLimit; omega) ((X.keeps F.keep) _ _ ho) rfl (T.nolimit.keeps F.keep) (codeRec_of (X.keeps F.keep) hcd) rfl (hbind s (X.keeps F.keep)) hcell hloc (fun h₁ hns hk₁ => ?_) hco hgen hk2
  refine wpAny_mono (h p loose mean mg mb dp un gd cn cs L a ccd cl outer base s s.heap.objs.size h₁ hroom hun hpre ⟨hns, hk₁, Nat.le_refl _⟩ News.nil BG (X.keeps F.keep) (T.keeps F.keep)) (fun fl s' hl => ?_) fun _ _ y => y.elim
  obtain ⟨h', tk', rfl, hs, hp⟩ := hl
  exact hret _ _ _ hs hp
theorem Fr.re {h₀ h : Heap} {L : Addr} {m : Str → Option Value} {x : Str} {v : Value} (F : Fr h₀ L h m) (e : m x = some v) : Fr h₀ L h (fun z => if z = x then some v else m z) := by
  have : m = fun z => if z = x then some v else m z := by
    funext z
    by_cases hz : z = x
    · subst hz; simp [e]
    · simp [hz]
  rw [← this]; exact F
theorem Fr.at (x : Str) (v : Value) {h₀ h : Heap} {L : Addr} {m : Str → Option Value} (F : Fr h₀ L h m) (e : m x = some v) : Fr h₀ L h (fun z => if z = x then some v else m z) := Fr.re F e
end
section
open PySem PySem.W PyProof.Rows PySem.Calls
theorem does_ofC {w : World} {k : Nat} {Pre : Heap → Prop} {Post : Heap → Value → Heap → Prop}
    {name qual : Str} {params : Arguments} {body : List Stmt} {scope : Scope} {dV kV doc pm cdv ct oc : Value} {an od : Option Addr} {osl : Array (Option Value)} {f : Addr} {vals : List Value} {kw : List (Str × Value)} (binds : List (Str × Value))
    (ho : (H0.heap_1 w.params).lookup f = some ⟨oc, od, .func (fnOf name qual params body scope dV kV doc pm an cdv ct), osl⟩) (hcd : codeIn (H0.heap_1 w.params) cdv qual = true)
    (hbind : ∀ s : Shared, (H0.heap_1 w.params).In s.heap → BindsTo s (fnOf name qual params body scope dV kV doc pm an cdv ct) ⟨vals, kw⟩ binds)
    (hkind : (binds.all fun y => scope.names.lookup y.1 == some .local || scope.names.lookup y.1 == some .cell) = true)
    (hnd : ((cellsFrom 0 scope.names []).map (·.1)).Nodup)
    (hk0 : 0 < k)
    (h : ∀ (p : Program) (loose : List Str) (mean : ExcName → Option Value) (mg mb : Str → Option Value) (dp un : Nat) (gd : Option (List Code)) (cn : Str) (cs : Scope) (L a : Addr) (ccd : Value) (cl : List (Str × Addr)) (outer : List Env) (base : Heap) (s : Shared) (L' : Addr) (h₁ : Heap) (tk : Nat) (cells : List (Addr × Obj)),
      dp + k < recursionLimit → un + 8 * k < cLine → Pre s.heap →
      Fr s.heap L' h₁ (bindL (envOfC qual scope L' f cdv).kindOf binds fun _ => none) → News s.heap L' h₁ cells → CellsAre (bindC (envOfC qual scope L' f cdv).kindOf binds fun _ => none) (cellsFrom (L' + 1) scope.names []) cells →
      Below (ktrTop dp un gd cn cs L a ccd cl outer) base (envX cn cs L a ccd cl :: outer) s.heap → (H0.heap_1 w.params).In s.heap → Top p loose mean mg mb s.heap →
      let ev := envOfC qual scope L' f cdv; let A := (ktrTop dp un gd cn cs L a ccd cl outer).deeper ev
      wpAny (model PySem.Challenge.rw_pa0043_02.row.prog w) A (execs body ev)
        (fun fl s' => Back s.heap Post s (match fl with | .ret v => v | _ => .none) s') (fun _ _ => False)
        { s with heap := h₁, toks := tk })
    (hco : scope.isCoroutine = false) (hgen : scope.isGenerator = false) (hk2 : scope.kind = .function) :
    Does w k f vals kw Pre Post := by
  intro p loose mean mg mb dp un gd cn cs a ccd cl outer A₀ base h₀ L m s Q E B F X T hk hroom hun hpre hret
  refine wpAny_call ?_
  obtain ⟨FG, BG, st, lv⟩ := groundX (A := ktrTop dp un gd cn cs L a ccd cl outer) (env := envX cn cs L a ccd cl) (R := fun r s' => match r with | .ok (.ret v) => Q v s' | .ok _ => False | .error e => E e s') B F (News.nil) rfl rfl hk
  refine codeAny_call_function (by show dp < recursionLimit; omega) ((X.keeps F.keep) _ _ ho) rfl hco hgen rfl (codeRec_of (X.keeps F.keep) hcd) (hbind s (X.keeps F.keep) _ _ _ _ ?_)
  refine wpAny_newFunctionEnv_cells hk2 (kindsX hkind _) fun env' he s' x => ?_
  subst he
  refine ⟨(T.nolimit.keeps F.keep).keeps x.toInCall.keep, codeAny_func ?_⟩
  obtain ⟨h₁, tk, rfl, _⟩ := x.done
  have hk₁ := x.toInCall.keep
  obtain ⟨cells, NC, Y⟩ := Cl.news (h₀ := s.heap) (Nat.le_refl _) fun n c hm => ⟨x.cell n c (lookup_of_mem_nodup (cellsFrom_names scope.names 0 (s.heap.objs.size + 1) [] [] rfl ▸ hnd) hm), x.above n c hm⟩
  refine wpAny_mono (h p loose mean mg mb dp un gd cn cs L a ccd cl outer base s s.heap.objs.size h₁ tk cells hroom hun hpre ⟨x.toInCall.ns, hk₁, Nat.le_refl _⟩ NC Y BG (X.keeps F.keep) (T.keeps F.keep)) (fun fl s' hl => ?_) fun _ _ y => y.elim
  obtain ⟨h', tk', rfl, hs, hp⟩ := hl
  exact hret _ _ _ hs hp
end
section
open PySem PySem.W PyProof.Rows PySem.Calls

noncomputable def b64v (c : Int) : Int := if 65 ≤ c ∧ c ≤ 90 then c - 65 else if 97 ≤ c ∧ c ≤ 122 then c - 71 else if 48 ≤ c ∧ c ≤ 57 then c + 4 else if c = 43 then 62 else if c = 47 then 63 else 64
set_option maxRecDepth 100000
set_option maxHeartbeats 8000000
theorem b64_value_does {w : World} {c : Int} {tk : Tok} : Does w 1 70 [.int c tk] [] (fun _ => True) (fun _ v _ => ∃ t, v = .int (b64v c) t) := by
  w_top off
  k_with_none
  k_with "m enter" => (
  (case ho => k_is)
  (case hcd => k_is)
  (case bind => intro s X; first | exact BindsTo.of_eq rfl | exact binds_K (by k_in) rfl (by k_is) rfl rfl rfl)
  (case loc => exact locs rfl)
  (case pos => decide)
  (case c1 => exact rfl)
  (case c2 => exact rfl)
  (case c3 => exact rfl)
  (case c4 => decide))
  k_with "m end" => refine ⟨_, _, rfl, Fr.keep (by assumption), ?_⟩
  k_with "m used" => (
  (case kB => k_asm)
  (case kF => k_asm)
  (case kN => k_asm)
  (case kX => k_asm)
  (case kT => k_asm)
  (case kK => exact rfl)
  (case kR => ktr_room)
  (case kU => ktr_units))
  k_with "call type:type" => ((with_reducible show wpAny _ _ (call (Value.type "type") [Value.bytes _ _]) _ _ _); refine call_type_of (typeIs_bytes _ _ _) (by decide) ?_)
  k_with "call builtin:str.encode" => (refine call_encode ?ha ?hs ?_; (case ha => assumption); (case hs => (first | assumption | omega | decide)))
  k_with "getMethod bytes" => (refine method_translate ?_)
  k_with "getMethod str" => ((with_reducible show wpAny _ _ (getMethod _ (Str.ofString "encode") _) _ _ _); refine method_encode ?_)
  k_with "getMethod type:bytes" => (refine' method_type (T := "bytes") (v := Value.builtin "bytes.maketrans") ?F ?X ty_bytes stub_bytes ?e ?h ?_; (case F => k_asm); (case X => k_asm); (case e => k_dflt k_is); (case h => exact rfl))
  k_with "call builtin:bytes.maketrans" => (refine call_maketrans ?a ?_; (case a => first | rfl | assumption | (simp; done)))
  k_with "call builtin:bytes.translate" => (refine call_translate (tableOf_size _ _) ?a ?_; (case a => first | assumption | omega); intro t9 k9)
  k_with "m for" => (with_unfolding_all (refine' For_invVF ?kF ?k1 ?k2 ?_ ?hs ?hE; (case kF => assumption); (case k1 => exact rfl); (case k2 => exact rfl); (case hs => intro _; rfl); (case hE => passes_own)))
  k_with "m name" => (k_dflt (refine' ld ?k1 ?k2 ?_; (case k1 => k_asm); (case k2 => exact rfl); k_whole))
  k_with "subscriptTail" => ((with_reducible show wpAny _ _ (subscriptTail _ _ (Value.bytes _ _) (Value.int (Builtin.bitAnd _ 63) _)) _ _ _); (with_unfolding_all refine b64_item ?_))
  k_with "storeName" => ((with_reducible show wpAny _ _ (storeName _ _ (Value.int _ _)) _ _ _); (try dsimp only); k_dflt (refine' store_int ?F ?N ?_ ?a ?b; (case F => k_asm); (case N => k_asm); (case a => rfl); (case b => rfl); k_whole; intro t9 k9 h' F' N'; (try k_sweep)))
  k_with "m enterC" => (
  (case ho => k_is)
  (case hcd => k_is)
  (case bind => intro s X; first | exact BindsTo.of_eq rfl | exact binds_K (by k_in) rfl (by k_is) rfl rfl rfl)
  (case loc => exact rfl)
  (case nd => decide +kernel)
  (case pos => decide)
  (case c1 => exact rfl)
  (case c2 => exact rfl)
  (case c3 => exact rfl))
  refine' does_of [("c", .int c tk)] ?ho ?hcd ?bind ?loc ?pos ?_ ?c1 ?c2 ?c3 ?c4
  walk_at "m enter"
  intro p loose mean mg mb dp un gd cn cs L a ccd cl outer base s L' h' hroom hun hpre F' N' B' X' T' ev0 A0
  try dsimp only
  k_fold
  k_steps
  all_goals (walk_at "m end"; exact ⟨_, by simp only [b64v]; congr 1; (repeat' split) <;> omega⟩)
theorem ascii_buffer_does {w : World} {b : Array UInt8} {tk : Tok} : Does w 1 49 [.bytes b tk] [] (fun _ => True) (fun _ v _ => v = .bytes b tk) := by
  w_top off
  k_with_none
  k_with "m enter" => (
  (case ho => k_is)
  (case hcd => k_is)
  (case bind => intro s X; first | exact BindsTo.of_eq rfl | exact binds_K (by k_in) rfl (by k_is) rfl rfl rfl)
  (case loc => exact locs rfl)
  (case pos => decide)
  (case c1 => exact rfl)
  (case c2 => exact rfl)
  (case c3 => exact rfl)
  (case c4 => decide))
  k_with "m end" => refine ⟨_, _, rfl, Fr.keep (by assumption), ?_⟩
  k_with "m used" => (
  (case kB => k_asm)
  (case kF => k_asm)
  (case kN => k_asm)
  (case kX => k_asm)
  (case kT => k_asm)
  (case kK => exact rfl)
  (case kR => ktr_room)
  (case kU => ktr_units))
  k_with "call type:type" => ((with_reducible show wpAny _ _ (call (Value.type "type") [Value.bytes _ _]) _ _ _); refine call_type_of (typeIs_bytes _ _ _) (by decide) ?_)
  k_with "call builtin:str.encode" => (refine call_encode ?ha ?hs ?_; (case ha => assumption); (case hs => (first | assumption | omega | decide)))
  k_with "getMethod bytes" => (refine method_translate ?_)
  k_with "getMethod str" => ((with_reducible show wpAny _ _ (getMethod _ (Str.ofString "encode") _) _ _ _); refine method_encode ?_)
  k_with "getMethod type:bytes" => (refine' method_type (T := "bytes") (v := Value.builtin "bytes.maketrans") ?F ?X ty_bytes stub_bytes ?e ?h ?_; (case F => k_asm); (case X => k_asm); (case e => k_dflt k_is); (case h => exact rfl))
  k_with "call builtin:bytes.maketrans" => (refine call_maketrans ?a ?_; (case a => first | rfl | assumption | (simp; done)))
  k_with "call builtin:bytes.translate" => (refine call_translate (tableOf_size _ _) ?a ?_; (case a => first | assumption | omega); intro t9 k9)
  k_with "m for" => (with_unfolding_all (refine' For_invVF ?kF ?k1 ?k2 ?_ ?hs ?hE; (case kF => assumption); (case k1 => exact rfl); (case k2 => exact rfl); (case hs => intro _; rfl); (case hE => passes_own)))
  k_with "m name" => (k_dflt (refine' ld ?k1 ?k2 ?_; (case k1 => k_asm); (case k2 => exact rfl); k_whole))
  k_with "subscriptTail" => ((with_reducible show wpAny _ _ (subscriptTail _ _ (Value.bytes _ _) (Value.int (Builtin.bitAnd _ 63) _)) _ _ _); (with_unfolding_all refine b64_item ?_))
  k_with "storeName" => ((with_reducible show wpAny _ _ (storeName _ _ (Value.int _ _)) _ _ _); (try dsimp only); k_dflt (refine' store_int ?F ?N ?_ ?a ?b; (case F => k_asm); (case N => k_asm); (case a => rfl); (case b => rfl); k_whole; intro t9 k9 h' F' N'; (try k_sweep)))
  k_with "m enterC" => (
  (case ho => k_is)
  (case hcd => k_is)
  (case bind => intro s X; first | exact BindsTo.of_eq rfl | exact binds_K (by k_in) rfl (by k_is) rfl rfl rfl)
  (case loc => exact rfl)
  (case nd => decide +kernel)
  (case pos => decide)
  (case c1 => exact rfl)
  (case c2 => exact rfl)
  (case c3 => exact rfl))
  refine' does_of [("data", .bytes b tk)] ?ho ?hcd ?bind ?loc ?pos ?_ ?c1 ?c2 ?c3 ?c4
  walk_at "m enter"
  intro p loose mean mg mb dp un gd cn cs L a ccd cl outer base s L' h' hroom hun hpre F' N' B' X' T' ev0 A0
  try dsimp only
  k_fold
  k_steps
  all_goals (walk_at "m end"; rfl)
theorem buffer_does {w : World} {b : Array UInt8} {tk : Tok} : Does w 1 56 [.bytes b tk] [] (fun _ => True) (fun _ v _ => v = .bytes b tk) := by
  w_top off
  k_with_none
  k_with "m enter" => (
  (case ho => k_is)
  (case hcd => k_is)
  (case bind => intro s X; first | exact BindsTo.of_eq rfl | exact binds_K (by k_in) rfl (by k_is) rfl rfl rfl)
  (case loc => exact locs rfl)
  (case pos => decide)
  (case c1 => exact rfl)
  (case c2 => exact rfl)
  (case c3 => exact rfl)
  (case c4 => decide))
  k_with "m end" => refine ⟨_, _, rfl, Fr.keep (by assumption), ?_⟩
  k_with "m used" => (
  (case kB => k_asm)
  (case kF => k_asm)
  (case kN => k_asm)
  (case kX => k_asm)
  (case kT => k_asm)
  (case kK => exact rfl)
  (case kR => ktr_room)
  (case kU => ktr_units))
  k_with "call type:type" => ((with_reducible show wpAny _ _ (call (Value.type "type") [Value.bytes _ _]) _ _ _); refine call_type_of (typeIs_bytes _ _ _) (by decide) ?_)
  k_with "call builtin:str.encode" => (refine call_encode ?ha ?hs ?_; (case ha => assumption); (case hs => (first | assumption | omega | decide)))
  k_with "getMethod bytes" => (refine method_translate ?_)
  k_with "getMethod str" => ((with_reducible show wpAny _ _ (getMethod _ (Str.ofString "encode") _) _ _ _); refine method_encode ?_)
  k_with "getMethod type:bytes" => (refine' method_type (T := "bytes") (v := Value.builtin "bytes.maketrans") ?F ?X ty_bytes stub_bytes ?e ?h ?_; (case F => k_asm); (case X => k_asm); (case e => k_dflt k_is); (case h => exact rfl))
  k_with "call builtin:bytes.maketrans" => (refine call_maketrans ?a ?_; (case a => first | rfl | assumption | (simp; done)))
  k_with "call builtin:bytes.translate" => (refine call_translate (tableOf_size _ _) ?a ?_; (case a => first | assumption | omega); intro t9 k9)
  k_with "m for" => (with_unfolding_all (refine' For_invVF ?kF ?k1 ?k2 ?_ ?hs ?hE; (case kF => assumption); (case k1 => exact rfl); (case k2 => exact rfl); (case hs => intro _; rfl); (case hE => passes_own)))
  k_with "m name" => (k_dflt (refine' ld ?k1 ?k2 ?_; (case k1 => k_asm); (case k2 => exact rfl); k_whole))
  k_with "subscriptTail" => ((with_reducible show wpAny _ _ (subscriptTail _ _ (Value.bytes _ _) (Value.int (Builtin.bitAnd _ 63) _)) _ _ _); (with_unfolding_all refine b64_item ?_))
  k_with "storeName" => ((with_reducible show wpAny _ _ (storeName _ _ (Value.int _ _)) _ _ _); (try dsimp only); k_dflt (refine' store_int ?F ?N ?_ ?a ?b; (case F => k_asm); (case N => k_asm); (case a => rfl); (case b => rfl); k_whole; intro t9 k9 h' F' N'; (try k_sweep)))
  k_with "m enterC" => (
  (case ho => k_is)
  (case hcd => k_is)
  (case bind => intro s X; first | exact BindsTo.of_eq rfl | exact binds_K (by k_in) rfl (by k_is) rfl rfl rfl)
  (case loc => exact rfl)
  (case nd => decide +kernel)
  (case pos => decide)
  (case c1 => exact rfl)
  (case c2 => exact rfl)
  (case c3 => exact rfl))
  refine' does_of [("data", .bytes b tk)] ?ho ?hcd ?bind ?loc ?pos ?_ ?c1 ?c2 ?c3 ?c4
  walk_at "m enter"
  intro p loose mean mg mb dp un gd cn cs L a ccd cl outer base s L' h' hroom hun hpre F' N' B' X' T' ev0 A0
  try dsimp only
  k_fold
  k_steps
  all_goals (walk_at "m end"; rfl)
theorem truth_does {w : World} : Does w 1 63 [.bool false] [] (fun _ => True) (fun _ v _ => v = .bool false) := by
  w_top off
  k_with_none
  k_with "m enter" => (
  (case ho => k_is)
  (case hcd => k_is)
  (case bind => intro s X; first | exact BindsTo.of_eq rfl | exact binds_K (by k_in) rfl (by k_is) rfl rfl rfl)
  (case loc => exact locs rfl)
  (case pos => decide)
  (case c1 => exact rfl)
  (case c2 => exact rfl)
  (case c3 => exact rfl)
  (case c4 => decide))
  k_with "m end" => refine ⟨_, _, rfl, Fr.keep (by assumption), ?_⟩
  k_with "m used" => (
  (case kB => k_asm)
  (case kF => k_asm)
  (case kN => k_asm)
  (case kX => k_asm)
  (case kT => k_asm)
  (case kK => exact rfl)
  (case kR => ktr_room)
  (case kU => ktr_units))
  k_with "call type:type" => ((with_reducible show wpAny _ _ (call (Value.type "type") [Value.bytes _ _]) _ _ _); refine call_type_of (typeIs_bytes _ _ _) (by decide) ?_)
  k_with "call builtin:str.encode" => (refine call_encode ?ha ?hs ?_; (case ha => assumption); (case hs => (first | assumption | omega | decide)))
  k_with "getMethod bytes" => (refine method_translate ?_)
  k_with "getMethod str" => ((with_reducible show wpAny _ _ (getMethod _ (Str.ofString "encode") _) _ _ _); refine method_encode ?_)
  k_with "getMethod type:bytes" => (refine' method_type (T := "bytes") (v := Value.builtin "bytes.maketrans") ?F ?X ty_bytes stub_bytes ?e ?h ?_; (case F => k_asm); (case X => k_asm); (case e => k_dflt k_is); (case h => exact rfl))
  k_with "call builtin:bytes.maketrans" => (refine call_maketrans ?a ?_; (case a => first | rfl | assumption | (simp; done)))
  k_with "call builtin:bytes.translate" => (refine call_translate (tableOf_size _ _) ?a ?_; (case a => first | assumption | omega); intro t9 k9)
  k_with "m for" => (with_unfolding_all (refine' For_invVF ?kF ?k1 ?k2 ?_ ?hs ?hE; (case kF => assumption); (case k1 => exact rfl); (case k2 => exact rfl); (case hs => intro _; rfl); (case hE => passes_own)))
  k_with "m name" => (k_dflt (refine' ld ?k1 ?k2 ?_; (case k1 => k_asm); (case k2 => exact rfl); k_whole))
  k_with "subscriptTail" => ((with_reducible show wpAny _ _ (subscriptTail _ _ (Value.bytes _ _) (Value.int (Builtin.bitAnd _ 63) _)) _ _ _); (with_unfolding_all refine b64_item ?_))
  k_with "storeName" => ((with_reducible show wpAny _ _ (storeName _ _ (Value.int _ _)) _ _ _); (try dsimp only); k_dflt (refine' store_int ?F ?N ?_ ?a ?b; (case F => k_asm); (case N => k_asm); (case a => rfl); (case b => rfl); k_whole; intro t9 k9 h' F' N'; (try k_sweep)))
  k_with "m enterC" => (
  (case ho => k_is)
  (case hcd => k_is)
  (case bind => intro s X; first | exact BindsTo.of_eq rfl | exact binds_K (by k_in) rfl (by k_is) rfl rfl rfl)
  (case loc => exact rfl)
  (case nd => decide +kernel)
  (case pos => decide)
  (case c1 => exact rfl)
  (case c2 => exact rfl)
  (case c3 => exact rfl))
  refine' does_of [("x", .bool false)] ?ho ?hcd ?bind ?loc ?pos ?_ ?c1 ?c2 ?c3 ?c4
  walk_at "m enter"
  intro p loose mean mg mb dp un gd cn cs L a ccd cl outer base s L' h' hroom hun hpre F' N' B' X' T' ev0 A0
  try dsimp only
  k_fold
  k_steps
  all_goals (walk_at "m end"; rfl)
theorem decode_data_does {w : World} {x : Str} {tk : Tok} (h : ∀ c ∈ x.cps, c < 128) (hs : x.length ≤ 16777216) : Does w 1 29 [.str x tk] [] (fun _ => True) (fun _ v _ => ∃ t, v = .bytes (toBytes x) t) := by
  w_top off
  k_with_none
  k_with "m enter" => (
  (case ho => k_is)
  (case hcd => k_is)
  (case bind => intro s X; first | exact BindsTo.of_eq rfl | exact binds_K (by k_in) rfl (by k_is) rfl rfl rfl)
  (case loc => exact locs rfl)
  (case pos => decide)
  (case c1 => exact rfl)
  (case c2 => exact rfl)
  (case c3 => exact rfl)
  (case c4 => decide))
  k_with "m end" => refine ⟨_, _, rfl, Fr.keep (by assumption), ?_⟩
  k_with "m used" => (
  (case kB => k_asm)
  (case kF => k_asm)
  (case kN => k_asm)
  (case kX => k_asm)
  (case kT => k_asm)
  (case kK => exact rfl)
  (case kR => ktr_room)
  (case kU => ktr_units))
  k_with "call type:type" => ((with_reducible show wpAny _ _ (call (Value.type "type") [Value.bytes _ _]) _ _ _); refine call_type_of (typeIs_bytes _ _ _) (by decide) ?_)
  k_with "call builtin:str.encode" => (refine call_encode ?ha ?hs ?_; (case ha => assumption); (case hs => (first | assumption | omega | decide)))
  k_with "getMethod bytes" => (refine method_translate ?_)
  k_with "getMethod str" => ((with_reducible show wpAny _ _ (getMethod _ (Str.ofString "encode") _) _ _ _); refine method_encode ?_)
  k_with "getMethod type:bytes" => (refine' method_type (T := "bytes") (v := Value.builtin "bytes.maketrans") ?F ?X ty_bytes stub_bytes ?e ?h ?_; (case F => k_asm); (case X => k_asm); (case e => k_dflt k_is); (case h => exact rfl))
  k_with "call builtin:bytes.maketrans" => (refine call_maketrans ?a ?_; (case a => first | rfl | assumption | (simp; done)))
  k_with "call builtin:bytes.translate" => (refine call_translate (tableOf_size _ _) ?a ?_; (case a => first | assumption | omega); intro t9 k9)
  k_with "m for" => (with_unfolding_all (refine' For_invVF ?kF ?k1 ?k2 ?_ ?hs ?hE; (case kF => assumption); (case k1 => exact rfl); (case k2 => exact rfl); (case hs => intro _; rfl); (case hE => passes_own)))
  k_with "m name" => (k_dflt (refine' ld ?k1 ?k2 ?_; (case k1 => k_asm); (case k2 => exact rfl); k_whole))
  k_with "subscriptTail" => ((with_reducible show wpAny _ _ (subscriptTail _ _ (Value.bytes _ _) (Value.int (Builtin.bitAnd _ 63) _)) _ _ _); (with_unfolding_all refine b64_item ?_))
  k_with "storeName" => ((with_reducible show wpAny _ _ (storeName _ _ (Value.int _ _)) _ _ _); (try dsimp only); k_dflt (refine' store_int ?F ?N ?_ ?a ?b; (case F => k_asm); (case N => k_asm); (case a => rfl); (case b => rfl); k_whole; intro t9 k9 h' F' N'; (try k_sweep)))
  k_with "m enterC" => (
  (case ho => k_is)
  (case hcd => k_is)
  (case bind => intro s X; first | exact BindsTo.of_eq rfl | exact binds_K (by k_in) rfl (by k_is) rfl rfl rfl)
  (case loc => exact rfl)
  (case nd => decide +kernel)
  (case pos => decide)
  (case c1 => exact rfl)
  (case c2 => exact rfl)
  (case c3 => exact rfl))
  refine' does_of [("s", .str x tk)] ?ho ?hcd ?bind ?loc ?pos ?_ ?c1 ?c2 ?c3 ?c4
  walk_at "m enter"
  intro p loose mean mg mb dp un gd cn cs L a ccd cl outer base s L' h' hroom hun hpre F' N' B' X' T' ev0 A0
  try dsimp only
  k_fold
  k_steps
  all_goals (walk_at "m end"; exact ⟨_, rfl⟩)
end
section
open PySem PySem.W PyProof.Rows PySem.Calls

set_option maxRecDepth 100000
set_option maxHeartbeats 8000000
inductive b2aJ (ks : List Int) (d : Addr) (i : Nat) (m : Str → Option Value) (nx : List (Addr × Obj)) : Prop
  | mk (bits char : Int) (out : List Int) (vs : List Value) (n : Nat) (t1 t2 : Tok) : (bits, char, out) = (ks.take i).foldl b2aStep (0, 0, []) → ((bits = 0 ∨ bits = 2 ∨ bits = 4)) → 0 ≤ char → char < 65536 → (∀ x ∈ out, 0 ≤ x ∧ x < 128) → IntsAre vs out → vs.length ≤ 2 * i → nx = [(d, W.listOf vs.toArray n)] → m (Str.ofString "leftbits") = some (.int bits t1) → m (Str.ofString "leftchar") = some (.int char t2) → m (Str.ofString "out") = some (.ref d) → m (Str.ofString "newline") = some (.bool false) → b2aJ ks d i m nx
theorem b2aStep_range {bits char k : Int} {out : List Int} (hr : ∀ x ∈ out, 0 ≤ x ∧ x < 128) {b' c' : Int} {o' : List Int} (e : b2aStep (bits, char, out) k = (b', c', o')) : 0 ≤ c' ∧ c' < 65536 ∧ ∀ x ∈ o', 0 ≤ x ∧ x < 128 := by
  have hm : 0 ≤ (char * 256 + k) % 65536 ∧ (char * 256 + k) % 65536 < 65536 := by omega
  unfold b2aStep at e
  dsimp only at e
  split at e
  · cases e; refine ⟨hm.1, hm.2, fun x hx => ?_⟩; rcases List.mem_append.mp hx with h | h
    · exact hr x h
    · rw [List.mem_singleton.mp h]; exact sgn_range _
  · split at e
    · cases e; refine ⟨hm.1, hm.2, fun x hx => ?_⟩; rcases List.mem_append.mp hx with h | h
      · exact hr x h
      · rw [List.mem_singleton.mp h]; exact sgn_range _
    · cases e; refine ⟨hm.1, hm.2, fun x hx => ?_⟩; rcases List.mem_append.mp hx with h | h
      · exact hr x h
      · rcases List.mem_cons.mp h with h | h
        · rw [h]; exact sgn_range _
        · rw [List.mem_singleton.mp h]; exact sgn_range _
theorem b2aJ_step {ks : List Int} {d : Addr} {i : Nat} {m : Str → Option Value} {bits char k b' c' : Int} {out o' : List Int} {vs' : List Value} {arr : Array Value} {n' : Nat} {t1 t2 : Tok} (ha : arr = vs'.toArray) (hi : ks[i]? = some k) (hf : (bits, char, out) = (ks.take i).foldl b2aStep (0, 0, []))
    (hr : ∀ x ∈ out, 0 ≤ x ∧ x < 128) (e : b2aStep (bits, char, out) k = (b', c', o')) (hb : b' = 0 ∨ b' = 2 ∨ b' = 4) (hvs : IntsAre vs' o') (hl : vs'.length ≤ 2 * (i + 1))
    (e1 : m (Str.ofString "leftbits") = some (.int b' t1)) (e2 : m (Str.ofString "leftchar") = some (.int c' t2)) (e3 : m (Str.ofString "out") = some (.ref d)) (e4 : m (Str.ofString "newline") = some (.bool false)) :
    b2aJ ks d (i + 1) m [(d, W.listOf arr n')] := by
  subst ha
  obtain ⟨h1, h2, h3⟩ := b2aStep_range hr e
  exact ⟨b', c', o', vs', n', t1, t2, by rw [fold_next hi hf, e], hb, h1, h2, h3, hvs, hl, rfl, e1, e2, e3, e4⟩
theorem push_two {α : Type} (l : List α) (a b : α) : (l.toArray.push a).push b = (l ++ [a] ++ [b]).toArray := by rw [List.push_toArray, List.push_toArray]
theorem b2a_e0 {c k : Int} {o : List Int} (hc : 0 ≤ c) (h0 : 0 ≤ k) (h1 : k < 256) : b2aStep (0, c, o) k = (0 + 8 - 6, Builtin.bitAnd (Builtin.bitOr (c * 2 ^ Int.toNat 8) k) 65535, o ++ [sgn ((Builtin.bitAnd (Builtin.bitOr (c * 2 ^ Int.toNat 8) k) 65535).fdiv (2 ^ (0 + 8 - 6 : Int).toNat) % 64)]) := by
  rw [b2a_idx _ (b2a_char hc h0 h1) (by omega), b2a_char hc h0 h1]; rfl
theorem b2a_e2 {c k : Int} {o : List Int} (hc : 0 ≤ c) (h0 : 0 ≤ k) (h1 : k < 256) : b2aStep (2, c, o) k = (2 + 8 - 6, Builtin.bitAnd (Builtin.bitOr (c * 2 ^ Int.toNat 8) k) 65535, o ++ [sgn ((Builtin.bitAnd (Builtin.bitOr (c * 2 ^ Int.toNat 8) k) 65535).fdiv (2 ^ (2 + 8 - 6 : Int).toNat) % 64)]) := by
  rw [b2a_idx _ (b2a_char hc h0 h1) (by omega), b2a_char hc h0 h1]; rfl
theorem b2a_e4 {c k : Int} {o : List Int} (hc : 0 ≤ c) (h0 : 0 ≤ k) (h1 : k < 256) : b2aStep (4, c, o) k = (4 + 8 - 6 - 6, Builtin.bitAnd (Builtin.bitOr (c * 2 ^ Int.toNat 8) k) 65535, o ++ [sgn ((Builtin.bitAnd (Builtin.bitOr (c * 2 ^ Int.toNat 8) k) 65535).fdiv (2 ^ (4 + 8 - 6 : Int).toNat) % 64)] ++ [sgn ((Builtin.bitAnd (Builtin.bitOr (c * 2 ^ Int.toNat 8) k) 65535).fdiv (2 ^ (4 + 8 - 6 - 6 : Int).toNat) % 64)]) := by
  rw [b2a_idx _ (b2a_char hc h0 h1) (by omega), b2a_idx _ (b2a_char hc h0 h1) (by omega), b2a_char hc h0 h1]
  show _ = (_, _, _ ++ [_] ++ [sgn (_ / 1 % 64)])
  rw [Int.ediv_one, List.append_assoc]; rfl
theorem b2a_does {w : World} {b : Array UInt8} {tk : Tok} (hb : b.size ≤ 1048576) (hz : ((KBw.bInts b).foldl b2aStep (0, 0, [])).1 = 0) : Does w 2 86 [.bytes b tk] [(Str.ofString "newline", .bool false)] (fun _ => True) (fun _ v _ => ∃ t, v = .bytes (byteArr ((KBw.bInts b).foldl b2aStep (0, 0, [])).2.2) t) := by
  w_top off
  k_with_none
  k_with "m enter" => (
  (case ho => k_is)
  (case hcd => k_is)
  (case bind => intro s X; first | exact BindsTo.of_eq rfl | exact binds_K (by k_in) rfl (by k_is) rfl rfl rfl)
  (case loc => exact locs rfl)
  (case pos => decide)
  (case c1 => exact rfl)
  (case c2 => exact rfl)
  (case c3 => exact rfl)
  (case c4 => decide))
  k_with "m end" => refine ⟨_, _, rfl, Fr.keep (by assumption), ?_⟩
  k_with "m used" => (
  (case kB => k_asm)
  (case kF => k_asm)
  (case kN => k_asm)
  (case kX => k_asm)
  (case kT => k_asm)
  (case kK => exact rfl)
  (case kR => ktr_room)
  (case kU => ktr_units))
  k_with "call type:type" => ((with_reducible show wpAny _ _ (call (Value.type "type") [Value.bytes _ _]) _ _ _); refine call_type_of (typeIs_bytes _ _ _) (by decide) ?_)
  k_with "call builtin:str.encode" => (refine call_encode ?ha ?hs ?_; (case ha => assumption); (case hs => (first | assumption | omega | decide)))
  k_with "getMethod bytes" => (refine method_translate ?_)
  k_with "getMethod str" => ((with_reducible show wpAny _ _ (getMethod _ (Str.ofString "encode") _) _ _ _); refine method_encode ?_)
  k_with "getMethod type:bytes" => (refine' method_type (T := "bytes") (v := Value.builtin "bytes.maketrans") ?F ?X ty_bytes stub_bytes ?e ?h ?_; (case F => k_asm); (case X => k_asm); (case e => k_dflt k_is); (case h => exact rfl))
  k_with "call builtin:bytes.maketrans" => (refine call_maketrans ?a ?_; (case a => first | rfl | assumption | (simp; done)))
  k_with "call builtin:bytes.translate" => (refine call_translate (tableOf_size _ _) ?a ?_; (case a => first | assumption | omega); intro t9 k9)
  k_with "m for" => (with_unfolding_all (refine' For_invVF ?kF ?k1 ?k2 ?_ ?hs ?hE; (case kF => assumption); (case k1 => exact rfl); (case k2 => exact rfl); (case hs => intro _; rfl); (case hE => passes_own)))
  k_with "m name" => (k_dflt (refine' ld ?k1 ?k2 ?_; (case k1 => k_asm); (case k2 => exact rfl); k_whole))
  k_with "subscriptTail" => ((with_reducible show wpAny _ _ (subscriptTail _ _ (Value.bytes _ _) (Value.int (Builtin.bitAnd _ 63) _)) _ _ _); (with_unfolding_all refine b64_item ?_))
  k_with "storeName" => ((with_reducible show wpAny _ _ (storeName _ _ (Value.int _ _)) _ _ _); (try dsimp only); k_dflt (refine' store_int ?F ?N ?_ ?a ?b; (case F => k_asm); (case N => k_asm); (case a => rfl); (case b => rfl); k_whole; intro t9 k9 h' F' N'; (try k_sweep)))
  k_with "m enterC" => (
  (case ho => k_is)
  (case hcd => k_is)
  (case bind => intro s X; first | exact BindsTo.of_eq rfl | exact binds_K (by k_in) rfl (by k_is) rfl rfl rfl)
  (case loc => exact rfl)
  (case nd => decide +kernel)
  (case pos => decide)
  (case c1 => exact rfl)
  (case c2 => exact rfl)
  (case c3 => exact rfl))
  k_with "call ref" => ((with_reducible show wpAny _ _ (call (Value.ref 56) _ _) _ _ _); refine' Does.use buffer_does ?kB ?kF ?kN ?kX ?kT ?kK ?kR ?kU trivial ?_; (walk_at "m used"); intro v9 h9 tk9 st9 F9 N9 hp9; subst hp9; (try k_sweep))
  k_with "call ref" => ((with_reducible show wpAny _ _ (call (Value.ref 63) _ _) _ _ _); refine' Does.use truth_does ?kB ?kF ?kN ?kX ?kT ?kK ?kR ?kU trivial ?_; (walk_at "m used"); intro v9 h9 tk9 st9 F9 N9 hp9; subst hp9; (try k_sweep))
  refine' does_of [("data", .bytes b tk), ("newline", .bool false)] ?ho ?hcd ?bind ?loc ?pos ?_ ?c1 ?c2 ?c3 ?c4
  walk_at "m enter"
  intro p loose mean mg mb dp un gd cn cs L a ccd cl outer base s L' h' hroom hun hpre F' N' B' X' T' ev0 A0
  try dsimp only
  k_fold
  k_steps
  (with_reducible rename Fr _ _ _ _ => F9)
  (with_reducible rename News _ _ _ _ => N9)
  refine KBmo.iter_bytesN (b2aJ (KBw.bInts b) _) rfl rfl F9 N9 ⟨0, 0, [], [], _, _, _, rfl, .inl rfl, by omega, by omega, (by simp), .nil, Nat.le_refl _, rfl, rfl, rfl, rfl, rfl⟩ ?_ ?_
  · rintro i k t m₁ nx h tk own hi hk0 hk1 hoff ⟨bits, char, out, vs, n, t1, t2, hfold, hbits, hc0, hc1, hr, hvs, hlen, rfl, e1, e2, e3, e4⟩ F₁ N₁
    have hi' : i < b.size := by rw [← KBw.ints_length b]; exact (List.getElem?_eq_some_iff.mp hi).1
    have F₂ := Fr.at "newline" (.bool false) (Fr.at "out" (.ref _) (Fr.at "leftchar" (.int char t2) (Fr.at "leftbits" (.int bits t1) F₁ e1) e2) e3) e4
    clear F₁ F9 N9
    dsimp only [List.cons_append, List.nil_append] at N₁ F₂
    (try k_unmd); k_fold
    rcases hbits with rfl | rfl | rfl
    · k_steps
      refine end_one (by assumption) (by assumption) ?_
      refine' b2aJ_step (List.push_toArray _ _) hi hfold hr (b2a_e0 hc0 hk0 hk1) (by omega) (hvs.append (.cons _ _ .nil)) (by simp only [List.length_append, List.length_singleton]; omega) ?f1 ?f2 ?f3 ?f4; (case f1 => exact rfl); (case f2 => exact rfl); (case f3 => exact rfl); (case f4 => exact rfl)
    · k_steps
      refine end_one (by assumption) (by assumption) ?_
      refine' b2aJ_step (List.push_toArray _ _) hi hfold hr (b2a_e2 hc0 hk0 hk1) (by omega) (hvs.append (.cons _ _ .nil)) (by simp only [List.length_append, List.length_singleton]; omega) ?f1 ?f2 ?f3 ?f4; (case f1 => exact rfl); (case f2 => exact rfl); (case f3 => exact rfl); (case f4 => exact rfl)
    · k_steps
      refine end_one (by assumption) (by assumption) ?_
      refine' b2aJ_step (push_two _ _ _) hi hfold hr (b2a_e4 hc0 hk0 hk1) (by omega) ((hvs.append (.cons _ _ .nil)).append (.cons _ _ .nil)) (by simp only [List.length_append, List.length_cons, List.length_nil]; omega) ?f1 ?f2 ?f3 ?f4; (case f1 => exact rfl); (case f2 => exact rfl); (case f3 => exact rfl); (case f4 => exact rfl)
  · rintro m₁ nx h tk ⟨bits, char, out, vs, n, t1, t2, hfold, hbits, hc0, hc1, hr, hvs, hlen, rfl, e1, e2, e3, e4⟩ F₁ N₁
    rw [List.take_length] at hfold
    obtain rfl : bits = 0 := by rw [← hfold] at hz; exact hz
    rw [KBw.ints_length] at hlen
    have F₂ := Fr.at "newline" (.bool false) (Fr.at "out" (.ref _) (Fr.at "leftbits" (.int 0 t1) F₁ e1) e3) e4
    clear F₁ F9 N9
    dsimp only
    k_steps
    refine call_bytes_ints (News.isList N₁ List.mem_cons_self) hvs (fun n hn => ⟨(hr n hn).1, Int.lt_trans (hr n hn).2 (by decide)⟩) (by rw [sizeLine_eq]; omega) rfl ?_
    intro h2 t2 k2 keep2
    exact ⟨_, _, rfl, fun b o e => keep2 b o (Fr.keep F₂ b o e), t2, by rw [← hfold]⟩
end
section
open PySem PySem.W PyProof.Rows PySem.Calls

set_option maxRecDepth 100000
set_option maxHeartbeats 8000000
theorem b64v_nonneg (c : Int) : 0 ≤ b64v c ∧ b64v c ≤ 64 := by unfold b64v; (repeat' split) <;> omega
noncomputable def a2bStep (st : Int × Int × List Int) (k : Int) : Int × Int × List Int :=
  if 64 ≤ b64v k then st
  else if st.1 = 0 then (1, b64v k, st.2.2)
  else if st.1 = 1 then (2, b64v k % 16, st.2.2 ++ [st.2.1 * 4 + b64v k / 16])
  else if st.1 = 2 then (3, b64v k % 4, st.2.2 ++ [st.2.1 * 16 + b64v k / 4])
  else (0, 0, st.2.2 ++ [st.2.1 * 64 + b64v k])
noncomputable def a2bOk (q l : Int) : Prop := (q = 0 ∧ l = 0) ∨ (q = 1 ∧ 0 ≤ l ∧ l < 64) ∨ (q = 2 ∧ 0 ≤ l ∧ l < 16) ∨ (q = 3 ∧ 0 ≤ l ∧ l < 4)
inductive a2bJ (ks : List Int) (d : Addr) (i : Nat) (m : Str → Option Value) (nx : List (Addr × Obj)) : Prop
  | mk (q l z : Int) (out : List Int) (vs : List Value) (n : Nat) (t1 t2 t3 t4 : Tok) : (q, l, out) = (ks.take i).foldl a2bStep (0, 0, []) → a2bOk q l → (∀ x ∈ out, 0 ≤ x ∧ x < 256) → IntsAre vs out → vs.length ≤ i → nx = [(d, W.listOf vs.toArray n)] → m (Str.ofString "quad_pos") = some (.int q t1) → m (Str.ofString "leftchar") = some (.int l t2) → m (Str.ofString "pads") = some (.int 0 t3) → m (Str.ofString "i") = some (.int z t4) → m (Str.ofString "out") = some (.ref d) → m (Str.ofString "strict_mode") = some (.bool false) → a2bJ ks d i m nx
theorem snoc_256 {out : List Int} (hr : ∀ x ∈ out, 0 ≤ x ∧ x < 256) {y : Int} (h0 : 0 ≤ y) (h1 : y < 256) : ∀ x ∈ out ++ [y], 0 ≤ x ∧ x < 256 := fun x hx => by
  rcases List.mem_append.mp hx with h | h
  · exact hr x h
  · rw [List.mem_singleton.mp h]; exact ⟨h0, h1⟩
theorem a2bOk_1 {l : Int} (h : a2bOk 1 l) : 0 ≤ l ∧ l < 64 := by unfold a2bOk at h; omega
theorem a2bOk_2 {l : Int} (h : a2bOk 2 l) : 0 ≤ l ∧ l < 16 := by unfold a2bOk at h; omega
theorem a2bOk_n {l q : Int} (h : a2bOk q l) (h0 : q ≠ 0) (h1 : q ≠ 1) (h2 : q ≠ 2) : 0 ≤ l ∧ l < 4 := by unfold a2bOk at h; omega
theorem a2bStep_ok {q l k : Int} {out : List Int} (hok : a2bOk q l) (hr : ∀ x ∈ out, 0 ≤ x ∧ x < 256) {q' l' : Int} {o' : List Int} (e : a2bStep (q, l, out) k = (q', l', o')) : a2bOk q' l' ∧ ∀ x ∈ o', 0 ≤ x ∧ x < 256 := by
  have hv := (b64v_nonneg k).1
  unfold a2bStep at e
  dsimp only at e
  generalize b64v k = v at e hv
  split at e
  · cases e; exact ⟨hok, hr⟩
  · rename_i h64
    have hv1 : v < 64 := Int.not_le.mp h64
    split at e
    · cases e; exact ⟨.inr (.inl ⟨rfl, hv, hv1⟩), hr⟩
    · split at e
      · rename_i hq; subst hq; cases e; have hl := a2bOk_1 hok; clear hok; exact ⟨.inr (.inr (.inl ⟨rfl, by omega, by omega⟩)), snoc_256 hr (by omega) (by omega)⟩
      · split at e
        · rename_i hq; subst hq; cases e; have hl := a2bOk_2 hok; clear hok; exact ⟨.inr (.inr (.inr ⟨rfl, by omega, by omega⟩)), snoc_256 hr (by omega) (by omega)⟩
        · cases e; have hl := a2bOk_n hok (by assumption) (by assumption) (by assumption); clear hok; exact ⟨.inl ⟨rfl, rfl⟩, snoc_256 hr (by omega) (by omega)⟩
theorem a2bOk_3 {q l : Int} (h : a2bOk q l) (h0 : q ≠ 0) (h1 : q ≠ 1) (h2 : q ≠ 2) : q = 3 := by unfold a2bOk at h; omega
theorem a2bJ_step {ks : List Int} {d : Addr} {i : Nat} {m : Str → Option Value} {q l z k q' l' : Int} {out o' : List Int} {vs' : List Value} {arr : Array Value} {n' : Nat} {t1 t2 t3 t4 : Tok} (ha : arr = vs'.toArray) (hi : ks[i]? = some k) (hf : (q, l, out) = (ks.take i).foldl a2bStep (0, 0, []))
    (hok : a2bOk q l) (hr : ∀ x ∈ out, 0 ≤ x ∧ x < 256) (e : a2bStep (q, l, out) k = (q', l', o')) (hvs : IntsAre vs' o') (hl : vs'.length ≤ i + 1)
    (e1 : m (Str.ofString "quad_pos") = some (.int q' t1)) (e2 : m (Str.ofString "leftchar") = some (.int l' t2)) (e3 : m (Str.ofString "pads") = some (.int 0 t3)) (e4 : m (Str.ofString "i") = some (.int z t4)) (e5 : m (Str.ofString "out") = some (.ref d)) (e6 : m (Str.ofString "strict_mode") = some (.bool false)) :
    a2bJ ks d (i + 1) m [(d, W.listOf arr n')] := by
  subst ha
  obtain ⟨h1, h2⟩ := a2bStep_ok hok hr e
  exact ⟨q', l', z, o', vs', n', t1, t2, t3, t4, by rw [fold_next hi hf, e], h1, h2, hvs, hl, rfl, e1, e2, e3, e4, e5, e6⟩
section
variable {q l k : Int} {out : List Int}
theorem a2b_skip (h : 64 ≤ b64v k) : a2bStep (q, l, out) k = (q, l, out) := by unfold a2bStep; rw [if_pos h]
theorem a2b_q0 (h : ¬ 64 ≤ b64v k) (hq : q = 0) : a2bStep (q, l, out) k = (1, b64v k, out) := by unfold a2bStep; rw [if_neg h, if_pos hq]
theorem a2b_q1 (h : ¬ 64 ≤ b64v k) (hq : q = 1) (hl : 0 ≤ l) : a2bStep (q, l, out) k = (2, Builtin.bitAnd (b64v k) 15, out ++ [Builtin.bitOr (l * 2 ^ Int.toNat 2) ((b64v k).fdiv (2 ^ Int.toNat 4))]) := by
  have hv := b64v_nonneg k
  have e : (b64v k).fdiv (2 ^ Int.toNat 4) = b64v k / 16 := Int.fdiv_eq_ediv_of_nonneg _ (by decide)
  unfold a2bStep
  subst hq
  rw [if_neg h, if_neg (by show ¬ ((1 : Int) = 0); decide), if_pos rfl, e, show Int.toNat 2 = 2 from rfl, bitOr_add 2 hl (by omega) (by show _ < (4 : Int); omega), bitAnd_m4]
  rfl
theorem a2b_q2 (h : ¬ 64 ≤ b64v k) (hq : q = 2) (hl : 0 ≤ l) : a2bStep (q, l, out) k = (3, Builtin.bitAnd (b64v k) 3, out ++ [Builtin.bitOr (l * 2 ^ Int.toNat 4) ((b64v k).fdiv (2 ^ Int.toNat 2))]) := by
  have hv := b64v_nonneg k
  have e : (b64v k).fdiv (2 ^ Int.toNat 2) = b64v k / 4 := Int.fdiv_eq_ediv_of_nonneg _ (by decide)
  unfold a2bStep
  subst hq
  rw [if_neg h, if_neg (by show ¬ ((2 : Int) = 0); decide), if_neg (by show ¬ ((2 : Int) = 1); decide), if_pos rfl, e, show Int.toNat 4 = 4 from rfl, bitOr_add 4 hl (by omega) (by show _ < (16 : Int); omega), bitAnd_m2]
  rfl
theorem a2b_q3 (h : ¬ 64 ≤ b64v k) (hq : q = 3) (hl : 0 ≤ l) : a2bStep (q, l, out) k = (0, 0, out ++ [Builtin.bitOr (l * 2 ^ Int.toNat 6) (b64v k)]) := by
  have hv := b64v_nonneg k
  unfold a2bStep
  subst hq
  rw [if_neg h, if_neg (by show ¬ ((3 : Int) = 0); decide), if_neg (by show ¬ ((3 : Int) = 1); decide), if_neg (by show ¬ ((3 : Int) = 2); decide), show Int.toNat 6 = 6 from rfl, bitOr_add 6 hl (by omega) (by show _ < (64 : Int); omega)]
  rfl
end
theorem a2b_does {w : World} {b : Array UInt8} {tk : Tok} (hb : b.size ≤ 1048576) (h61 : ∀ k ∈ KBw.bInts b, k ≠ 61) (hz : ((KBw.bInts b).foldl a2bStep (0, 0, [])).1 = 0) : Does w 2 78 [.bytes b tk] [(Str.ofString "strict_mode", .bool false)] (fun _ => True) (fun _ v _ => ∃ t, v = .bytes (byteArr ((KBw.bInts b).foldl a2bStep (0, 0, [])).2.2) t) := by
  w_top off
  k_with_none
  k_with "m enter" => (
  (case ho => k_is)
  (case hcd => k_is)
  (case bind => intro s X; first | exact BindsTo.of_eq rfl | exact binds_K (by k_in) rfl (by k_is) rfl rfl rfl)
  (case loc => exact locs rfl)
  (case pos => decide)
  (case c1 => exact rfl)
  (case c2 => exact rfl)
  (case c3 => exact rfl)
  (case c4 => decide))
  k_with "m end" => refine ⟨_, _, rfl, Fr.keep (by assumption), ?_⟩
  k_with "m used" => (
  (case kB => k_asm)
  (case kF => k_asm)
  (case kN => k_asm)
  (case kX => k_asm)
  (case kT => k_asm)
  (case kK => exact rfl)
  (case kR => ktr_room)
  (case kU => ktr_units))
  k_with "call type:type" => ((with_reducible show wpAny _ _ (call (Value.type "type") [Value.bytes _ _]) _ _ _); refine call_type_of (typeIs_bytes _ _ _) (by decide) ?_)
  k_with "call builtin:str.encode" => (refine call_encode ?ha ?hs ?_; (case ha => assumption); (case hs => (first | assumption | omega | decide)))
  k_with "getMethod bytes" => (refine method_translate ?_)
  k_with "getMethod str" => ((with_reducible show wpAny _ _ (getMethod _ (Str.ofString "encode") _) _ _ _); refine method_encode ?_)
  k_with "getMethod type:bytes" => (refine' method_type (T := "bytes") (v := Value.builtin "bytes.maketrans") ?F ?X ty_bytes stub_bytes ?e ?h ?_; (case F => k_asm); (case X => k_asm); (case e => k_dflt k_is); (case h => exact rfl))
  k_with "call builtin:bytes.maketrans" => (refine call_maketrans ?a ?_; (case a => first | rfl | assumption | (simp; done)))
  k_with "call builtin:bytes.translate" => (refine call_translate (tableOf_size _ _) ?a ?_; (case a => first | assumption | omega); intro t9 k9)
  k_with "m for" => (with_unfolding_all (refine' For_invVF ?kF ?k1 ?k2 ?_ ?hs ?hE; (case kF => assumption); (case k1 => exact rfl); (case k2 => exact rfl); (case hs => intro _; rfl); (case hE => passes_own)))
  k_with "m name" => (k_dflt (refine' ld ?k1 ?k2 ?_; (case k1 => k_asm); (case k2 => exact rfl); k_whole))
  k_with "subscriptTail" => ((with_reducible show wpAny _ _ (subscriptTail _ _ (Value.bytes _ _) (Value.int (Builtin.bitAnd _ 63) _)) _ _ _); (with_unfolding_all refine b64_item ?_))
  k_with "storeName" => ((with_reducible show wpAny _ _ (storeName _ _ (Value.int _ _)) _ _ _); (try dsimp only); k_dflt (refine' store_int ?F ?N ?_ ?a ?b; (case F => k_asm); (case N => k_asm); (case a => rfl); (case b => rfl); k_whole; intro t9 k9 h' F' N'; (try k_sweep)))
  k_with "m enterC" => (
  (case ho => k_is)
  (case hcd => k_is)
  (case bind => intro s X; first | exact BindsTo.of_eq rfl | exact binds_K (by k_in) rfl (by k_is) rfl rfl rfl)
  (case loc => exact rfl)
  (case nd => decide +kernel)
  (case pos => decide)
  (case c1 => exact rfl)
  (case c2 => exact rfl)
  (case c3 => exact rfl))
  k_with "call ref" => ((with_reducible show wpAny _ _ (call (Value.ref 49) _ _) _ _ _); refine' Does.use ascii_buffer_does ?kB ?kF ?kN ?kX ?kT ?kK ?kR ?kU trivial ?_; (walk_at "m used"); intro v9 h9 tk9 st9 F9 N9 hp9; subst hp9; (try k_sweep))
  k_with "call ref" => ((with_reducible show wpAny _ _ (call (Value.ref 63) _ _) _ _ _); refine' Does.use truth_does ?kB ?kF ?kN ?kX ?kT ?kK ?kR ?kU trivial ?_; (walk_at "m used"); intro v9 h9 tk9 st9 F9 N9 hp9; subst hp9; (try k_sweep))
  k_with "call ref" => ((with_reducible show wpAny _ _ (call (Value.ref 70) _ _) _ _ _); refine' Does.use b64_value_does ?kB ?kF ?kN ?kX ?kT ?kK ?kR ?kU trivial ?_; (walk_at "m used"); intro v9 h9 tk9 st9 F9 N9 hp9; (obtain ⟨t9, hp9⟩ := hp9); subst hp9; (try k_sweep))
  refine' does_of [("data", .bytes b tk), ("strict_mode", .bool false)] ?ho ?hcd ?bind ?loc ?pos ?_ ?c1 ?c2 ?c3 ?c4
  walk_at "m enter"
  intro p loose mean mg mb dp un gd cn cs L a ccd cl outer base s L' h' hroom hun hpre F' N' B' X' T' ev0 A0
  try dsimp only
  k_fold
  k_steps
  (with_reducible rename Fr _ _ _ _ => F9)
  (with_reducible rename News _ _ _ _ => N9)
  refine KBmo.iter_bytesN (a2bJ (KBw.bInts b) _) rfl rfl F9 N9 ⟨0, 0, 0, [], [], _, _, _, _, _, rfl, .inl ⟨rfl, rfl⟩, (by simp), .nil, Nat.le_refl _, rfl, rfl, rfl, rfl, rfl, rfl, rfl⟩ ?_ ?_
  · rintro i k t m₁ nx h tk own hi hk0 hk1 hoff ⟨q, l, z, out, vs, n, t1, t2, t3, t4, hfold, hok, hr, hvs, hlen, rfl, e1, e2, e3, e4, e5, e6⟩ F₁ N₁
    have hi' : i < b.size := by rw [← KBw.ints_length b]; exact (List.getElem?_eq_some_iff.mp hi).1
    have hk61 : k ≠ 61 := h61 k (List.mem_of_getElem? hi)
    have hv := b64v_nonneg k
    have F₂ := Fr.at "strict_mode" (.bool false) (Fr.at "out" (.ref _) (Fr.at "i" (.int z t4) (Fr.at "pads" (.int 0 t3) (Fr.at "leftchar" (.int l t2) (Fr.at "quad_pos" (.int q t1) F₁ e1) e2) e3) e4) e5) e6
    clear F₁ F9 N9
    dsimp only [List.cons_append, List.nil_append] at N₁ F₂
    (try k_unmd); k_fold
    have hok' := hok
    have hl0 : 0 ≤ l ∧ l < 64 := by unfold a2bOk at hok; omega
    obtain ⟨hl0, hl1⟩ := hl0
    clear hok
    k_steps
    all_goals refine end_one (by assumption) (by assumption) ?_
    · refine' a2bJ_step rfl hi hfold hok' hr (a2b_skip (by omega)) hvs (by omega) ?f1 ?f2 ?f3 ?f4 ?f5 ?f6; (case f1 => exact rfl); (case f2 => exact rfl); (case f3 => exact rfl); (case f4 => exact rfl); (case f5 => exact rfl); (case f6 => exact rfl)
    · refine' a2bJ_step rfl hi hfold hok' hr (a2b_q0 (by omega) (by omega)) hvs (by omega) ?f1 ?f2 ?f3 ?f4 ?f5 ?f6; (case f1 => exact rfl); (case f2 => exact rfl); (case f3 => exact rfl); (case f4 => exact rfl); (case f5 => exact rfl); (case f6 => exact rfl)
    · refine' a2bJ_step (List.push_toArray _ _) hi hfold hok' hr (a2b_q1 (by omega) (by omega) hl0) (hvs.append (.cons _ _ .nil)) (by simp only [List.length_append, List.length_singleton]; omega) ?f1 ?f2 ?f3 ?f4 ?f5 ?f6; (case f1 => exact rfl); (case f2 => exact rfl); (case f3 => exact rfl); (case f4 => exact rfl); (case f5 => exact rfl); (case f6 => exact rfl)
    · refine' a2bJ_step (List.push_toArray _ _) hi hfold hok' hr (a2b_q2 (by omega) (by omega) hl0) (hvs.append (.cons _ _ .nil)) (by simp only [List.length_append, List.length_singleton]; omega) ?f1 ?f2 ?f3 ?f4 ?f5 ?f6; (case f1 => exact rfl); (case f2 => exact rfl); (case f3 => exact rfl); (case f4 => exact rfl); (case f5 => exact rfl); (case f6 => exact rfl)
    · refine' a2bJ_step (List.push_toArray _ _) hi hfold hok' hr (a2b_q3 (by omega) (a2bOk_3 hok' (by omega) (by omega) (by omega)) hl0) (hvs.append (.cons _ _ .nil)) (by simp only [List.length_append, List.length_singleton]; omega) ?f1 ?f2 ?f3 ?f4 ?f5 ?f6; (case f1 => exact rfl); (case f2 => exact rfl); (case f3 => exact rfl); (case f4 => exact rfl); (case f5 => exact rfl); (case f6 => exact rfl)
  · rintro m₁ nx h tk ⟨q, l, z, out, vs, n, t1, t2, t3, t4, hfold, hok, hr, hvs, hlen, rfl, e1, e2, e3, e4, e5, e6⟩ F₁ N₁
    rw [List.take_length] at hfold
    obtain rfl : q = 0 := by rw [← hfold] at hz; exact hz
    rw [KBw.ints_length] at hlen
    have F₂ := Fr.at "out" (.ref _) (Fr.at "pads" (.int 0 t3) (Fr.at "quad_pos" (.int 0 t1) F₁ e1) e3) e5
    clear F₁ F9 N9
    dsimp only
    k_steps
    exact ⟨_, _, rfl, Fr.keep (by assumption), _, by rw [← hfold]⟩
end
section
open PySem PySem.W PyProof.Rows PySem.Calls

set_option maxRecDepth 100000
set_option maxHeartbeats 8000000
noncomputable def tab_cdata : List (Nat × List Nat) := [(38, [38, 97, 109, 112, 59]), (60, [38, 108, 116, 59]), (62, [38, 103, 116, 59])]
theorem esc_cdata_does {w : World} {l : List Nat} {tk : Tok} (hlen : l.length ≤ 390000) : Does w 1 116 [.str (ofL l) tk] [] (fun _ => True) (fun _ v _ => ∃ t, v = .str (ofL (escL tab_cdata l)) t) := by
  suffices H : Does w 1 116 [.str (ofL (escL [] l)) tk] [] (fun _ => True) (fun _ v _ => ∃ t, v = .str (ofL (escL tab_cdata l)) t) by rwa [escL_nil] at H
  w_top off
  k_with_none
  k_with "m enter" => (
  (case ho => k_is)
  (case hcd => k_is)
  (case bind => intro s X; first | exact BindsTo.of_eq rfl | exact binds_K (by k_in) rfl (by k_is) rfl rfl rfl)
  (case loc => exact locs rfl)
  (case pos => decide)
  (case c1 => exact rfl)
  (case c2 => exact rfl)
  (case c3 => exact rfl)
  (case c4 => decide))
  k_with "m end" => refine ⟨_, _, rfl, Fr.keep (by assumption), ?_⟩
  k_with "m used" => (
  (case kB => k_asm)
  (case kF => k_asm)
  (case kN => k_asm)
  (case kX => k_asm)
  (case kT => k_asm)
  (case kK => exact rfl)
  (case kR => ktr_room)
  (case kU => ktr_units))
  k_with "call type:type" => ((with_reducible show wpAny _ _ (call (Value.type "type") [Value.bytes _ _]) _ _ _); refine call_type_of (typeIs_bytes _ _ _) (by decide) ?_)
  k_with "call builtin:str.encode" => (refine call_encode ?ha ?hs ?_; (case ha => assumption); (case hs => (first | assumption | omega | decide)))
  k_with "getMethod bytes" => (refine method_translate ?_)
  k_with "getMethod str" => ((with_reducible show wpAny _ _ (getMethod _ (Str.ofString "encode") _) _ _ _); refine method_encode ?_)
  k_with "getMethod type:bytes" => (refine' method_type (T := "bytes") (v := Value.builtin "bytes.maketrans") ?F ?X ty_bytes stub_bytes ?e ?h ?_; (case F => k_asm); (case X => k_asm); (case e => k_dflt k_is); (case h => exact rfl))
  k_with "call builtin:bytes.maketrans" => (refine call_maketrans ?a ?_; (case a => first | rfl | assumption | (simp; done)))
  k_with "call builtin:bytes.translate" => (refine call_translate (tableOf_size _ _) ?a ?_; (case a => first | assumption | omega); intro t9 k9)
  k_with "m for" => (with_unfolding_all (refine' For_invVF ?kF ?k1 ?k2 ?_ ?hs ?hE; (case kF => assumption); (case k1 => exact rfl); (case k2 => exact rfl); (case hs => intro _; rfl); (case hE => passes_own)))
  k_with "m name" => (k_dflt (refine' ld ?k1 ?k2 ?_; (case k1 => k_asm); (case k2 => exact rfl); k_whole))
  k_with "subscriptTail" => ((with_reducible show wpAny _ _ (subscriptTail _ _ (Value.bytes _ _) (Value.int (Builtin.bitAnd _ 63) _)) _ _ _); (with_unfolding_all refine b64_item ?_))
  k_with "storeName" => ((with_reducible show wpAny _ _ (storeName _ _ (Value.int _ _)) _ _ _); (try dsimp only); k_dflt (refine' store_int ?F ?N ?_ ?a ?b; (case F => k_asm); (case N => k_asm); (case a => rfl); (case b => rfl); k_whole; intro t9 k9 h' F' N'; (try k_sweep)))
  k_with "m enterC" => (
  (case ho => k_is)
  (case hcd => k_is)
  (case bind => intro s X; first | exact BindsTo.of_eq rfl | exact binds_K (by k_in) rfl (by k_is) rfl rfl rfl)
  (case loc => exact rfl)
  (case nd => decide +kernel)
  (case pos => decide)
  (case c1 => exact rfl)
  (case c2 => exact rfl)
  (case c3 => exact rfl))
  k_with "m if" => (
  refine' if_esc (h₀ := _) ?hlen ?ht ?F ?hm ?hcs ?hr ?hok ?hzl ?hcr ?_ ?he ?hsw
  (case hlen => assumption)
  (case F => assumption)
  (case ht => first | assumption | omega)
  (case hm => exact rfl)
  (case hcs => exact rfl)
  (case hr => exact rfl)
  (case hok => decide +kernel)
  (case hzl => decide)
  (case hcr => decide +kernel)
  (case he => with_unfolding_all rfl)
  (case hsw => with_unfolding_all rfl)
  intro t9 k9 h9 m9 hk9 F9)
  refine' does_of [("text", .str (ofL (escL [] l)) tk)] ?ho ?hcd ?bind ?loc ?pos ?_ ?c1 ?c2 ?c3 ?c4
  walk_at "m enter"
  intro p loose mean mg mb dp un gd cn cs L a ccd cl outer base s L' h' hroom hun hpre F' N' B' X' T' ev0 A0
  try dsimp only
  k_fold
  refine gen_toks (Nat.succ_pos _) ?_
  intro tk9 ht9
  walk1
  walk1
  walk1
  walk_at "m if"
  dsimp only
  walk1
  walk_at "m if"
  dsimp only
  walk1
  walk_at "m if"
  dsimp only
  k_steps
  walk_at "m end"
  exact ⟨_, rfl⟩
noncomputable def tab_attrib : List (Nat × List Nat) := [(38, [38, 97, 109, 112, 59]), (60, [38, 108, 116, 59]), (62, [38, 103, 116, 59]), (34, [38, 113, 117, 111, 116, 59]), (13, [38, 35, 49, 51, 59]), (10, [38, 35, 49, 48, 59]), (9, [38, 35, 48, 57, 59])]
theorem esc_attrib_does {w : World} {l : List Nat} {tk : Tok} (hlen : l.length ≤ 390000) : Does w 1 123 [.str (ofL l) tk] [] (fun _ => True) (fun _ v _ => ∃ t, v = .str (ofL (escL tab_attrib l)) t) := by
  suffices H : Does w 1 123 [.str (ofL (escL [] l)) tk] [] (fun _ => True) (fun _ v _ => ∃ t, v = .str (ofL (escL tab_attrib l)) t) by rwa [escL_nil] at H
  w_top off
  k_with_none
  k_with "m enter" => (
  (case ho => k_is)
  (case hcd => k_is)
  (case bind => intro s X; first | exact BindsTo.of_eq rfl | exact binds_K (by k_in) rfl (by k_is) rfl rfl rfl)
  (case loc => exact locs rfl)
  (case pos => decide)
  (case c1 => exact rfl)
  (case c2 => exact rfl)
  (case c3 => exact rfl)
  (case c4 => decide))
  k_with "m end" => refine ⟨_, _, rfl, Fr.keep (by assumption), ?_⟩
  k_with "m used" => (
  (case kB => k_asm)
  (case kF => k_asm)
  (case kN => k_asm)
  (case kX => k_asm)
  (case kT => k_asm)
  (case kK => exact rfl)
  (case kR => ktr_room)
  (case kU => ktr_units))
  k_with "call type:type" => ((with_reducible show wpAny _ _ (call (Value.type "type") [Value.bytes _ _]) _ _ _); refine call_type_of (typeIs_bytes _ _ _) (by decide) ?_)
  k_with "call builtin:str.encode" => (refine call_encode ?ha ?hs ?_; (case ha => assumption); (case hs => (first | assumption | omega | decide)))
  k_with "getMethod bytes" => (refine method_translate ?_)
  k_with "getMethod str" => ((with_reducible show wpAny _ _ (getMethod _ (Str.ofString "encode") _) _ _ _); refine method_encode ?_)
  k_with "getMethod type:bytes" => (refine' method_type (T := "bytes") (v := Value.builtin "bytes.maketrans") ?F ?X ty_bytes stub_bytes ?e ?h ?_; (case F => k_asm); (case X => k_asm); (case e => k_dflt k_is); (case h => exact rfl))
  k_with "call builtin:bytes.maketrans" => (refine call_maketrans ?a ?_; (case a => first | rfl | assumption | (simp; done)))
  k_with "call builtin:bytes.translate" => (refine call_translate (tableOf_size _ _) ?a ?_; (case a => first | assumption | omega); intro t9 k9)
  k_with "m for" => (with_unfolding_all (refine' For_invVF ?kF ?k1 ?k2 ?_ ?hs ?hE; (case kF => assumption); (case k1 => exact rfl); (case k2 => exact rfl); (case hs => intro _; rfl); (case hE => passes_own)))
  k_with "m name" => (k_dflt (refine' ld ?k1 ?k2 ?_; (case k1 => k_asm); (case k2 => exact rfl); k_whole))
  k_with "subscriptTail" => ((with_reducible show wpAny _ _ (subscriptTail _ _ (Value.bytes _ _) (Value.int (Builtin.bitAnd _ 63) _)) _ _ _); (with_unfolding_all refine b64_item ?_))
  k_with "storeName" => ((with_reducible show wpAny _ _ (storeName _ _ (Value.int _ _)) _ _ _); (try dsimp only); k_dflt (refine' store_int ?F ?N ?_ ?a ?b; (case F => k_asm); (case N => k_asm); (case a => rfl); (case b => rfl); k_whole; intro t9 k9 h' F' N'; (try k_sweep)))
  k_with "m enterC" => (
  (case ho => k_is)
  (case hcd => k_is)
  (case bind => intro s X; first | exact BindsTo.of_eq rfl | exact binds_K (by k_in) rfl (by k_is) rfl rfl rfl)
  (case loc => exact rfl)
  (case nd => decide +kernel)
  (case pos => decide)
  (case c1 => exact rfl)
  (case c2 => exact rfl)
  (case c3 => exact rfl))
  k_with "m if" => (
  refine' if_esc (h₀ := _) ?hlen ?ht ?F ?hm ?hcs ?hr ?hok ?hzl ?hcr ?_ ?he ?hsw
  (case hlen => assumption)
  (case F => assumption)
  (case ht => first | assumption | omega)
  (case hm => exact rfl)
  (case hcs => exact rfl)
  (case hr => exact rfl)
  (case hok => decide +kernel)
  (case hzl => decide)
  (case hcr => decide +kernel)
  (case he => with_unfolding_all rfl)
  (case hsw => with_unfolding_all rfl)
  intro t9 k9 h9 m9 hk9 F9)
  refine' does_of [("text", .str (ofL (escL [] l)) tk)] ?ho ?hcd ?bind ?loc ?pos ?_ ?c1 ?c2 ?c3 ?c4
  walk_at "m enter"
  intro p loose mean mg mb dp un gd cn cs L a ccd cl outer base s L' h' hroom hun hpre F' N' B' X' T' ev0 A0
  try dsimp only
  k_fold
  refine gen_toks (Nat.succ_pos _) ?_
  intro tk9 ht9
  walk1
  walk1
  walk1
  walk_at "m if"
  dsimp only
  walk1
  walk_at "m if"
  dsimp only
  walk1
  walk_at "m if"
  dsimp only
  walk1
  walk_at "m if"
  dsimp only
  walk1
  walk_at "m if"
  dsimp only
  walk1
  walk_at "m if"
  dsimp only
  walk1
  walk_at "m if"
  dsimp only
  k_steps
  walk_at "m end"
  exact ⟨_, rfl⟩
noncomputable def tab_attrib_html : List (Nat × List Nat) := [(38, [38, 97, 109, 112, 59]), (62, [38, 103, 116, 59]), (34, [38, 113, 117, 111, 116, 59])]
theorem esc_attrib_html_does {w : World} {l : List Nat} {tk : Tok} (hlen : l.length ≤ 390000) : Does w 1 130 [.str (ofL l) tk] [] (fun _ => True) (fun _ v _ => ∃ t, v = .str (ofL (escL tab_attrib_html l)) t) := by
  suffices H : Does w 1 130 [.str (ofL (escL [] l)) tk] [] (fun _ => True) (fun _ v _ => ∃ t, v = .str (ofL (escL tab_attrib_html l)) t) by rwa [escL_nil] at H
  w_top off
  k_with_none
  k_with "m enter" => (
  (case ho => k_is)
  (case hcd => k_is)
  (case bind => intro s X; first | exact BindsTo.of_eq rfl | exact binds_K (by k_in) rfl (by k_is) rfl rfl rfl)
  (case loc => exact locs rfl)
  (case pos => decide)
  (case c1 => exact rfl)
  (case c2 => exact rfl)
  (case c3 => exact rfl)
  (case c4 => decide))
  k_with "m end" => refine ⟨_, _, rfl, Fr.keep (by assumption), ?_⟩
  k_with "m used" => (
  (case kB => k_asm)
  (case kF => k_asm)
  (case kN => k_asm)
  (case kX => k_asm)
  (case kT => k_asm)
  (case kK => exact rfl)
  (case kR => ktr_room)
  (case kU => ktr_units))
  k_with "call type:type" => ((with_reducible show wpAny _ _ (call (Value.type "type") [Value.bytes _ _]) _ _ _); refine call_type_of (typeIs_bytes _ _ _) (by decide) ?_)
  k_with "call builtin:str.encode" => (refine call_encode ?ha ?hs ?_; (case ha => assumption); (case hs => (first | assumption | omega | decide)))
  k_with "getMethod bytes" => (refine method_translate ?_)
  k_with "getMethod str" => ((with_reducible show wpAny _ _ (getMethod _ (Str.ofString "encode") _) _ _ _); refine method_encode ?_)
  k_with "getMethod type:bytes" => (refine' method_type (T := "bytes") (v := Value.builtin "bytes.maketrans") ?F ?X ty_bytes stub_bytes ?e ?h ?_; (case F => k_asm); (case X => k_asm); (case e => k_dflt k_is); (case h => exact rfl))
  k_with "call builtin:bytes.maketrans" => (refine call_maketrans ?a ?_; (case a => first | rfl | assumption | (simp; done)))
  k_with "call builtin:bytes.translate" => (refine call_translate (tableOf_size _ _) ?a ?_; (case a => first | assumption | omega); intro t9 k9)
  k_with "m for" => (with_unfolding_all (refine' For_invVF ?kF ?k1 ?k2 ?_ ?hs ?hE; (case kF => assumption); (case k1 => exact rfl); (case k2 => exact rfl); (case hs => intro _; rfl); (case hE => passes_own)))
  k_with "m name" => (k_dflt (refine' ld ?k1 ?k2 ?_; (case k1 => k_asm); (case k2 => exact rfl); k_whole))
  k_with "subscriptTail" => ((with_reducible show wpAny _ _ (subscriptTail _ _ (Value.bytes _ _) (Value.int (Builtin.bitAnd _ 63) _)) _ _ _); (with_unfolding_all refine b64_item ?_))
  k_with "storeName" => ((with_reducible show wpAny _ _ (storeName _ _ (Value.int _ _)) _ _ _); (try dsimp only); k_dflt (refine' store_int ?F ?N ?_ ?a ?b; (case F => k_asm); (case N => k_asm); (case a => rfl); (case b => rfl); k_whole; intro t9 k9 h' F' N'; (try k_sweep)))
  k_with "m enterC" => (
  (case ho => k_is)
  (case hcd => k_is)
  (case bind => intro s X; first | exact BindsTo.of_eq rfl | exact binds_K (by k_in) rfl (by k_is) rfl rfl rfl)
  (case loc => exact rfl)
  (case nd => decide +kernel)
  (case pos => decide)
  (case c1 => exact rfl)
  (case c2 => exact rfl)
  (case c3 => exact rfl))
  k_with "m if" => (
  refine' if_esc (h₀ := _) ?hlen ?ht ?F ?hm ?hcs ?hr ?hok ?hzl ?hcr ?_ ?he ?hsw
  (case hlen => assumption)
  (case F => assumption)
  (case ht => first | assumption | omega)
  (case hm => exact rfl)
  (case hcs => exact rfl)
  (case hr => exact rfl)
  (case hok => decide +kernel)
  (case hzl => decide)
  (case hcr => decide +kernel)
  (case he => with_unfolding_all rfl)
  (case hsw => with_unfolding_all rfl)
  intro t9 k9 h9 m9 hk9 F9)
  refine' does_of [("text", .str (ofL (escL [] l)) tk)] ?ho ?hcd ?bind ?loc ?pos ?_ ?c1 ?c2 ?c3 ?c4
  walk_at "m enter"
  intro p loose mean mg mb dp un gd cn cs L a ccd cl outer base s L' h' hroom hun hpre F' N' B' X' T' ev0 A0
  try dsimp only
  k_fold
  refine gen_toks (Nat.succ_pos _) ?_
  intro tk9 ht9
  walk1
  walk1
  walk1
  walk_at "m if"
  dsimp only
  walk1
  walk_at "m if"
  dsimp only
  walk1
  walk_at "m if"
  dsimp only
  k_steps
  walk_at "m end"
  exact ⟨_, rfl⟩
noncomputable def tab_cdata_c14n : List (Nat × List Nat) := [(38, [38, 97, 109, 112, 59]), (60, [38, 108, 116, 59]), (62, [38, 103, 116, 59]), (13, [38, 35, 120, 68, 59])]
theorem esc_cdata_c14n_does {w : World} {l : List Nat} {tk : Tok} (hlen : l.length ≤ 390000) : Does w 1 137 [.str (ofL l) tk] [] (fun _ => True) (fun _ v _ => ∃ t, v = .str (ofL (escL tab_cdata_c14n l)) t) := by
  suffices H : Does w 1 137 [.str (ofL (escL [] l)) tk] [] (fun _ => True) (fun _ v _ => ∃ t, v = .str (ofL (escL tab_cdata_c14n l)) t) by rwa [escL_nil] at H
  w_top off
  k_with_none
  k_with "m enter" => (
  (case ho => k_is)
  (case hcd => k_is)
  (case bind => intro s X; first | exact BindsTo.of_eq rfl | exact binds_K (by k_in) rfl (by k_is) rfl rfl rfl)
  (case loc => exact locs rfl)
  (case pos => decide)
  (case c1 => exact rfl)
  (case c2 => exact rfl)
  (case c3 => exact rfl)
  (case c4 => decide))
  k_with "m end" => refine ⟨_, _, rfl, Fr.keep (by assumption), ?_⟩
  k_with "m used" => (
  (case kB => k_asm)
  (case kF => k_asm)
  (case kN => k_asm)
  (case kX => k_asm)
  (case kT => k_asm)
  (case kK => exact rfl)
  (case kR => ktr_room)
  (case kU => ktr_units))
  k_with "call type:type" => ((with_reducible show wpAny _ _ (call (Value.type "type") [Value.bytes _ _]) _ _ _); refine call_type_of (typeIs_bytes _ _ _) (by decide) ?_)
  k_with "call builtin:str.encode" => (refine call_encode ?ha ?hs ?_; (case ha => assumption); (case hs => (first | assumption | omega | decide)))
  k_with "getMethod bytes" => (refine method_translate ?_)
  k_with "getMethod str" => ((with_reducible show wpAny _ _ (getMethod _ (Str.ofString "encode") _) _ _ _); refine method_encode ?_)
  k_with "getMethod type:bytes" => (refine' method_type (T := "bytes") (v := Value.builtin "bytes.maketrans") ?F ?X ty_bytes stub_bytes ?e ?h ?_; (case F => k_asm); (case X => k_asm); (case e => k_dflt k_is); (case h => exact rfl))
  k_with "call builtin:bytes.maketrans" => (refine call_maketrans ?a ?_; (case a => first | rfl | assumption | (simp; done)))
  k_with "call builtin:bytes.translate" => (refine call_translate (tableOf_size _ _) ?a ?_; (case a => first | assumption | omega); intro t9 k9)
  k_with "m for" => (with_unfolding_all (refine' For_invVF ?kF ?k1 ?k2 ?_ ?hs ?hE; (case kF => assumption); (case k1 => exact rfl); (case k2 => exact rfl); (case hs => intro _; rfl); (case hE => passes_own)))
  k_with "m name" => (k_dflt (refine' ld ?k1 ?k2 ?_; (case k1 => k_asm); (case k2 => exact rfl); k_whole))
  k_with "subscriptTail" => ((with_reducible show wpAny _ _ (subscriptTail _ _ (Value.bytes _ _) (Value.int (Builtin.bitAnd _ 63) _)) _ _ _); (with_unfolding_all refine b64_item ?_))
  k_with "storeName" => ((with_reducible show wpAny _ _ (storeName _ _ (Value.int _ _)) _ _ _); (try dsimp only); k_dflt (refine' store_int ?F ?N ?_ ?a ?b; (case F => k_asm); (case N => k_asm); (case a => rfl); (case b => rfl); k_whole; intro t9 k9 h' F' N'; (try k_sweep)))
  k_with "m enterC" => (
  (case ho => k_is)
  (case hcd => k_is)
  (case bind => intro s X; first | exact BindsTo.of_eq rfl | exact binds_K (by k_in) rfl (by k_is) rfl rfl rfl)
  (case loc => exact rfl)
  (case nd => decide +kernel)
  (case pos => decide)
  (case c1 => exact rfl)
  (case c2 => exact rfl)
  (case c3 => exact rfl))
  k_with "m if" => (
  refine' if_esc (h₀ := _) ?hlen ?ht ?F ?hm ?hcs ?hr ?hok ?hzl ?hcr ?_ ?he ?hsw
  (case hlen => assumption)
  (case F => assumption)
  (case ht => first | assumption | omega)
  (case hm => exact rfl)
  (case hcs => exact rfl)
  (case hr => exact rfl)
  (case hok => decide +kernel)
  (case hzl => decide)
  (case hcr => decide +kernel)
  (case he => with_unfolding_all rfl)
  (case hsw => with_unfolding_all rfl)
  intro t9 k9 h9 m9 hk9 F9)
  refine' does_of [("text", .str (ofL (escL [] l)) tk)] ?ho ?hcd ?bind ?loc ?pos ?_ ?c1 ?c2 ?c3 ?c4
  walk_at "m enter"
  intro p loose mean mg mb dp un gd cn cs L a ccd cl outer base s L' h' hroom hun hpre F' N' B' X' T' ev0 A0
  try dsimp only
  k_fold
  refine gen_toks (Nat.succ_pos _) ?_
  intro tk9 ht9
  walk1
  walk1
  walk1
  walk_at "m if"
  dsimp only
  walk1
  walk_at "m if"
  dsimp only
  walk1
  walk_at "m if"
  dsimp only
  walk1
  walk_at "m if"
  dsimp only
  k_steps
  walk_at "m end"
  exact ⟨_, rfl⟩
noncomputable def tab_attrib_c14n : List (Nat × List Nat) := [(38, [38, 97, 109, 112, 59]), (60, [38, 108, 116, 59]), (34, [38, 113, 117, 111, 116, 59]), (9, [38, 35, 120, 57, 59]), (10, [38, 35, 120, 65, 59]), (13, [38, 35, 120, 68, 59])]
theorem esc_attrib_c14n_does {w : World} {l : List Nat} {tk : Tok} (hlen : l.length ≤ 390000) : Does w 1 144 [.str (ofL l) tk] [] (fun _ => True) (fun _ v _ => ∃ t, v = .str (ofL (escL tab_attrib_c14n l)) t) := by
  suffices H : Does w 1 144 [.str (ofL (escL [] l)) tk] [] (fun _ => True) (fun _ v _ => ∃ t, v = .str (ofL (escL tab_attrib_c14n l)) t) by rwa [escL_nil] at H
  w_top off
  k_with_none
  k_with "m enter" => (
  (case ho => k_is)
  (case hcd => k_is)
  (case bind => intro s X; first | exact BindsTo.of_eq rfl | exact binds_K (by k_in) rfl (by k_is) rfl rfl rfl)
  (case loc => exact locs rfl)
  (case pos => decide)
  (case c1 => exact rfl)
  (case c2 => exact rfl)
  (case c3 => exact rfl)
  (case c4 => decide))
  k_with "m end" => refine ⟨_, _, rfl, Fr.keep (by assumption), ?_⟩
  k_with "m used" => (
  (case kB => k_asm)
  (case kF => k_asm)
  (case kN => k_asm)
  (case kX => k_asm)
  (case kT => k_asm)
  (case kK => exact rfl)
  (case kR => ktr_room)
  (case kU => ktr_units))
  k_with "call type:type" => ((with_reducible show wpAny _ _ (call (Value.type "type") [Value.bytes _ _]) _ _ _); refine call_type_of (typeIs_bytes _ _ _) (by decide) ?_)
  k_with "call builtin:str.encode" => (refine call_encode ?ha ?hs ?_; (case ha => assumption); (case hs => (first | assumption | omega | decide)))
  k_with "getMethod bytes" => (refine method_translate ?_)
  k_with "getMethod str" => ((with_reducible show wpAny _ _ (getMethod _ (Str.ofString "encode") _) _ _ _); refine method_encode ?_)
  k_with "getMethod type:bytes" => (refine' method_type (T := "bytes") (v := Value.builtin "bytes.maketrans") ?F ?X ty_bytes stub_bytes ?e ?h ?_; (case F => k_asm); (case X => k_asm); (case e => k_dflt k_is); (case h => exact rfl))
  k_with "call builtin:bytes.maketrans" => (refine call_maketrans ?a ?_; (case a => first | rfl | assumption | (simp; done)))
  k_with "call builtin:bytes.translate" => (refine call_translate (tableOf_size _ _) ?a ?_; (case a => first | assumption | omega); intro t9 k9)
  k_with "m for" => (with_unfolding_all (refine' For_invVF ?kF ?k1 ?k2 ?_ ?hs ?hE; (case kF => assumption); (case k1 => exact rfl); (case k2 => exact rfl); (case hs => intro _; rfl); (case hE => passes_own)))
  k_with "m name" => (k_dflt (refine' ld ?k1 ?k2 ?_; (case k1 => k_asm); (case k2 => exact rfl); k_whole))
  k_with "subscriptTail" => ((with_reducible show wpAny _ _ (subscriptTail _ _ (Value.bytes _ _) (Value.int (Builtin.bitAnd _ 63) _)) _ _ _); (with_unfolding_all refine b64_item ?_))
  k_with "storeName" => ((with_reducible show wpAny _ _ (storeName _ _ (Value.int _ _)) _ _ _); (try dsimp only); k_dflt (refine' store_int ?F ?N ?_ ?a ?b; (case F => k_asm); (case N => k_asm); (case a => rfl); (case b => rfl); k_whole; intro t9 k9 h' F' N'; (try k_sweep)))
  k_with "m enterC" => (
  (case ho => k_is)
  (case hcd => k_is)
  (case bind => intro s X; first | exact BindsTo.of_eq rfl | exact binds_K (by k_in) rfl (by k_is) rfl rfl rfl)
  (case loc => exact rfl)
  (case nd => decide +kernel)
  (case pos => decide)
  (case c1 => exact rfl)
  (case c2 => exact rfl)
  (case c3 => exact rfl))
  k_with "m if" => (
  refine' if_esc (h₀ := _) ?hlen ?ht ?F ?hm ?hcs ?hr ?hok ?hzl ?hcr ?_ ?he ?hsw
  (case hlen => assumption)
  (case F => assumption)
  (case ht => first | assumption | omega)
  (case hm => exact rfl)
  (case hcs => exact rfl)
  (case hr => exact rfl)
  (case hok => decide +kernel)
  (case hzl => decide)
  (case hcr => decide +kernel)
  (case he => with_unfolding_all rfl)
  (case hsw => with_unfolding_all rfl)
  intro t9 k9 h9 m9 hk9 F9)
  refine' does_of [("text", .str (ofL (escL [] l)) tk)] ?ho ?hcd ?bind ?loc ?pos ?_ ?c1 ?c2 ?c3 ?c4
  walk_at "m enter"
  intro p loose mean mg mb dp un gd cn cs L a ccd cl outer base s L' h' hroom hun hpre F' N' B' X' T' ev0 A0
  try dsimp only
  k_fold
  refine gen_toks (Nat.succ_pos _) ?_
  intro tk9 ht9
  walk1
  walk1
  walk1
  walk_at "m if"
  dsimp only
  walk1
  walk_at "m if"
  dsimp only
  walk1
  walk_at "m if"
  dsimp only
  walk1
  walk_at "m if"
  dsimp only
  walk1
  walk_at "m if"
  dsimp only
  walk1
  walk_at "m if"
  dsimp only
  k_steps
  walk_at "m end"
  exact ⟨_, rfl⟩
end
section
open PySem PySem.W PyProof.Rows PySem.Calls

set_option maxRecDepth 100000
set_option maxHeartbeats 8000000
noncomputable def encOut (b : Array UInt8) : Array UInt8 := byteArr ((KBw.bInts b).foldl b2aStep (0, 0, [])).2.2
theorem encode_does {w : World} {b c : Array UInt8} {tk tk2 : Tok} (hb : b.size ≤ 1048576) (hz : ((KBw.bInts b).foldl b2aStep (0, 0, [])).1 = 0) (hc : c.size = 2) (ho : (encOut b).size ≤ 16777216) :
    Does w 3 94 [.bytes b tk, .bytes c tk2] [] (fun _ => True) (fun _ v _ => ∃ t, v = .bytes (translated (tableOf #[43, 47] c) (encOut b)) t) := by
  have hc' : (#[43, 47] : Array UInt8).size = c.size := hc.symm
  w_top off
  k_with_none
  k_with "m enter" => (
  (case ho => k_is)
  (case hcd => k_is)
  (case bind => intro s X; first | exact BindsTo.of_eq rfl | exact binds_K (by k_in) rfl (by k_is) rfl rfl rfl)
  (case loc => exact locs rfl)
  (case pos => decide)
  (case c1 => exact rfl)
  (case c2 => exact rfl)
  (case c3 => exact rfl)
  (case c4 => decide))
  k_with "m end" => refine ⟨_, _, rfl, Fr.keep (by assumption), ?_⟩
  k_with "m used" => (
  (case kB => k_asm)
  (case kF => k_asm)
  (case kN => k_asm)
  (case kX => k_asm)
  (case kT => k_asm)
  (case kK => exact rfl)
  (case kR => ktr_room)
  (case kU => ktr_units))
  k_with "call type:type" => ((with_reducible show wpAny _ _ (call (Value.type "type") [Value.bytes _ _]) _ _ _); refine call_type_of (typeIs_bytes _ _ _) (by decide) ?_)
  k_with "call builtin:str.encode" => (refine call_encode ?ha ?hs ?_; (case ha => assumption); (case hs => (first | assumption | omega | decide)))
  k_with "getMethod bytes" => (refine method_translate ?_)
  k_with "getMethod str" => ((with_reducible show wpAny _ _ (getMethod _ (Str.ofString "encode") _) _ _ _); refine method_encode ?_)
  k_with "getMethod type:bytes" => (refine' method_type (T := "bytes") (v := Value.builtin "bytes.maketrans") ?F ?X ty_bytes stub_bytes ?e ?h ?_; (case F => k_asm); (case X => k_asm); (case e => k_dflt k_is); (case h => exact rfl))
  k_with "call builtin:bytes.maketrans" => (refine call_maketrans ?a ?_; (case a => first | rfl | assumption | (simp; done)))
  k_with "call builtin:bytes.translate" => (refine call_translate (tableOf_size _ _) ?a ?_; (case a => first | assumption | omega); intro t9 k9)
  k_with "m for" => (with_unfolding_all (refine' For_invVF ?kF ?k1 ?k2 ?_ ?hs ?hE; (case kF => assumption); (case k1 => exact rfl); (case k2 => exact rfl); (case hs => intro _; rfl); (case hE => passes_own)))
  k_with "m name" => (k_dflt (refine' ld ?k1 ?k2 ?_; (case k1 => k_asm); (case k2 => exact rfl); k_whole))
  k_with "subscriptTail" => ((with_reducible show wpAny _ _ (subscriptTail _ _ (Value.bytes _ _) (Value.int (Builtin.bitAnd _ 63) _)) _ _ _); (with_unfolding_all refine b64_item ?_))
  k_with "storeName" => ((with_reducible show wpAny _ _ (storeName _ _ (Value.int _ _)) _ _ _); (try dsimp only); k_dflt (refine' store_int ?F ?N ?_ ?a ?b; (case F => k_asm); (case N => k_asm); (case a => rfl); (case b => rfl); k_whole; intro t9 k9 h' F' N'; (try k_sweep)))
  k_with "m enterC" => (
  (case ho => k_is)
  (case hcd => k_is)
  (case bind => intro s X; first | exact BindsTo.of_eq rfl | exact binds_K (by k_in) rfl (by k_is) rfl rfl rfl)
  (case loc => exact rfl)
  (case nd => decide +kernel)
  (case pos => decide)
  (case c1 => exact rfl)
  (case c2 => exact rfl)
  (case c3 => exact rfl))
  k_with "call builtin:repr" => (exfalso; omega)
  k_with "call ref" => ((with_reducible show wpAny _ _ (call (Value.ref 86) _ _) _ _ _); (change wpAny _ _ (call (Value.ref 86) _ ((Str.ofString "newline", Value.bool false) :: [])) _ _ _); refine' Does.use (b2a_does (by assumption) (by assumption)) ?kB ?kF ?kN ?kX ?kT ?kK ?kR ?kU trivial ?_; (walk_at "m used"); intro v9 h9 tk9 st9 F9 N9 hp9; (obtain ⟨t9, hp9⟩ := hp9); subst hp9; (try k_sweep))
  refine' does_of [("s", .bytes b tk), ("altchars", .bytes c tk2)] ?ho ?hcd ?bind ?loc ?pos ?_ ?c1 ?c2 ?c3 ?c4
  walk_at "m enter"
  intro p loose mean mg mb dp un gd cn cs L a ccd cl outer base s L' h' hroom hun hpre F' N' B' X' T' ev0 A0
  try dsimp only
  k_fold
  k_steps
  all_goals (walk_at "m end"; exact ⟨_, rfl⟩)
theorem decode_does {w : World} {x y : Str} {tk tk2 : Tok} (hx : ∀ c ∈ x.cps, c < 128) (hxl : x.length ≤ 1048576) (hxl' : x.length ≤ 16777216) (hy : ∀ c ∈ y.cps, c < 128) (hyl : y.length ≤ 16777216) (hy2 : (toBytes y).size = 2)
    (h61 : ∀ k ∈ KBw.bInts (translated (tableOf (toBytes y) #[43, 47]) (toBytes x)), k ≠ 61) (hz : ((KBw.bInts (translated (tableOf (toBytes y) #[43, 47]) (toBytes x))).foldl a2bStep (0, 0, [])).1 = 0) :
    Does w 3 102 [.str x tk, .str y tk2] [] (fun _ => True) (fun _ v _ => ∃ t, v = .bytes (byteArr ((KBw.bInts (translated (tableOf (toBytes y) #[43, 47]) (toBytes x))).foldl a2bStep (0, 0, [])).2.2) t) := by
  have hs : (translated (tableOf (toBytes y) #[43, 47]) (toBytes x)).size ≤ 1048576 := by unfold translated toBytes; rw [Array.size_map, Array.size_map]; exact hxl
  have hs2 : (toBytes x).size ≤ 16777216 := by unfold toBytes; rw [Array.size_map]; exact hxl'
  w_top off
  k_with_none
  k_with "m enter" => (
  (case ho => k_is)
  (case hcd => k_is)
  (case bind => intro s X; first | exact BindsTo.of_eq rfl | exact binds_K (by k_in) rfl (by k_is) rfl rfl rfl)
  (case loc => exact locs rfl)
  (case pos => decide)
  (case c1 => exact rfl)
  (case c2 => exact rfl)
  (case c3 => exact rfl)
  (case c4 => decide))
  k_with "m end" => refine ⟨_, _, rfl, Fr.keep (by assumption), ?_⟩
  k_with "m used" => (
  (case kB => k_asm)
  (case kF => k_asm)
  (case kN => k_asm)
  (case kX => k_asm)
  (case kT => k_asm)
  (case kK => exact rfl)
  (case kR => ktr_room)
  (case kU => ktr_units))
  k_with "call type:type" => ((with_reducible show wpAny _ _ (call (Value.type "type") [Value.bytes _ _]) _ _ _); refine call_type_of (typeIs_bytes _ _ _) (by decide) ?_)
  k_with "call builtin:str.encode" => (refine call_encode ?ha ?hs ?_; (case ha => assumption); (case hs => (first | assumption | omega | decide)))
  k_with "getMethod bytes" => (refine method_translate ?_)
  k_with "getMethod str" => ((with_reducible show wpAny _ _ (getMethod _ (Str.ofString "encode") _) _ _ _); refine method_encode ?_)
  k_with "getMethod type:bytes" => (refine' method_type (T := "bytes") (v := Value.builtin "bytes.maketrans") ?F ?X ty_bytes stub_bytes ?e ?h ?_; (case F => k_asm); (case X => k_asm); (case e => k_dflt k_is); (case h => exact rfl))
  k_with "call builtin:bytes.maketrans" => (refine call_maketrans ?a ?_; (case a => first | rfl | assumption | (simp; done)))
  k_with "call builtin:bytes.translate" => (refine call_translate (tableOf_size _ _) ?a ?_; (case a => first | assumption | omega); intro t9 k9)
  k_with "m for" => (with_unfolding_all (refine' For_invVF ?kF ?k1 ?k2 ?_ ?hs ?hE; (case kF => assumption); (case k1 => exact rfl); (case k2 => exact rfl); (case hs => intro _; rfl); (case hE => passes_own)))
  k_with "m name" => (k_dflt (refine' ld ?k1 ?k2 ?_; (case k1 => k_asm); (case k2 => exact rfl); k_whole))
  k_with "subscriptTail" => ((with_reducible show wpAny _ _ (subscriptTail _ _ (Value.bytes _ _) (Value.int (Builtin.bitAnd _ 63) _)) _ _ _); (with_unfolding_all refine b64_item ?_))
  k_with "storeName" => ((with_reducible show wpAny _ _ (storeName _ _ (Value.int _ _)) _ _ _); (try dsimp only); k_dflt (refine' store_int ?F ?N ?_ ?a ?b; (case F => k_asm); (case N => k_asm); (case a => rfl); (case b => rfl); k_whole; intro t9 k9 h' F' N'; (try k_sweep)))
  k_with "m enterC" => (
  (case ho => k_is)
  (case hcd => k_is)
  (case bind => intro s X; first | exact BindsTo.of_eq rfl | exact binds_K (by k_in) rfl (by k_is) rfl rfl rfl)
  (case loc => exact rfl)
  (case nd => decide +kernel)
  (case pos => decide)
  (case c1 => exact rfl)
  (case c2 => exact rfl)
  (case c3 => exact rfl))
  k_with "call builtin:repr" => (exfalso; omega)
  k_with "call ref" => ((with_reducible show wpAny _ _ (call (Value.ref 86) _ _) _ _ _); (change wpAny _ _ (call (Value.ref 86) _ ((Str.ofString "newline", Value.bool false) :: [])) _ _ _); refine' Does.use (b2a_does (by assumption) (by assumption)) ?kB ?kF ?kN ?kX ?kT ?kK ?kR ?kU trivial ?_; (walk_at "m used"); intro v9 h9 tk9 st9 F9 N9 hp9; (obtain ⟨t9, hp9⟩ := hp9); subst hp9; (try k_sweep))
  k_with "call ref" => ((with_reducible show wpAny _ _ (call (Value.ref 29) _ _) _ _ _); refine' Does.use (decode_data_does (by assumption) (by assumption)) ?kB ?kF ?kN ?kX ?kT ?kK ?kR ?kU trivial ?_; (walk_at "m used"); intro v9 h9 tk9 st9 F9 N9 hp9; (obtain ⟨t9, hp9⟩ := hp9); subst hp9; (try k_sweep))
  k_with "call ref" => ((with_reducible show wpAny _ _ (call (Value.ref 78) _ _) _ _ _); (change wpAny _ _ (call (Value.ref 78) _ ((Str.ofString "strict_mode", Value.bool false) :: [])) _ _ _); refine' Does.use (a2b_does (by assumption) (by assumption) (by assumption)) ?kB ?kF ?kN ?kX ?kT ?kK ?kR ?kU trivial ?_; (walk_at "m used"); intro v9 h9 tk9 st9 F9 N9 hp9; (obtain ⟨t9, hp9⟩ := hp9); subst hp9; (try k_sweep))
  refine' does_of [("s", .str x tk), ("altchars", .str y tk2), ("validate", .bool false)] ?ho ?hcd ?bind ?loc ?pos ?_ ?c1 ?c2 ?c3 ?c4
  walk_at "m enter"
  intro p loose mean mg mb dp un gd cn cs L a ccd cl outer base s L' h' hroom hun hpre F' N' B' X' T' ev0 A0
  try dsimp only
  k_fold
  k_steps
  all_goals exact ⟨_, _, rfl, Fr.keep (by assumption), _, rfl⟩
end
section
open PySem PySem.W PyProof.Rows PySem.Calls

set_option maxRecDepth 100000
set_option maxHeartbeats 8000000
noncomputable def escTab (way : Int) : List (Nat × List Nat) := if way = 0 then tab_attrib else if way = 1 then tab_attrib_c14n else if way = 2 then tab_cdata else if way = 3 then tab_cdata_c14n else tab_attrib_html
theorem escTab_0 {way : Int} (h : way = 0) : escTab way = tab_attrib := by subst h; rfl
theorem escTab_1 {way : Int} (h : way = 1) : escTab way = tab_attrib_c14n := by subst h; rfl
theorem escTab_2 {way : Int} (h : way = 2) : escTab way = tab_cdata := by subst h; rfl
theorem escTab_3 {way : Int} (h : way = 3) : escTab way = tab_cdata_c14n := by subst h; rfl
theorem escTab_4 {way : Int} (h0 : way ≠ 0) (h1 : way ≠ 1) (h2 : way ≠ 2) (h3 : way ≠ 3) : escTab way = tab_attrib_html := by unfold escTab; rw [if_neg h0, if_neg h1, if_neg h2, if_neg h3]
theorem escaped_does {w : World} {way : Int} {l : List Nat} {tk tk2 : Tok} (hlen : l.length ≤ 390000) : Does w 2 165 [.int way tk2, .str (ofL l) tk] [] (fun _ => True) (fun _ v _ => ∃ t, v = .str (ofL (escL (escTab way) l)) t) := by
  w_top off
  k_with_none
  k_with "m enter" => (
  (case ho => k_is)
  (case hcd => k_is)
  (case bind => intro s X; first | exact BindsTo.of_eq rfl | exact binds_K (by k_in) rfl (by k_is) rfl rfl rfl)
  (case loc => exact locs rfl)
  (case pos => decide)
  (case c1 => exact rfl)
  (case c2 => exact rfl)
  (case c3 => exact rfl)
  (case c4 => decide))
  k_with "m end" => refine ⟨_, _, rfl, Fr.keep (by assumption), ?_⟩
  k_with "m used" => (
  (case kB => k_asm)
  (case kF => k_asm)
  (case kN => k_asm)
  (case kX => k_asm)
  (case kT => k_asm)
  (case kK => exact rfl)
  (case kR => ktr_room)
  (case kU => ktr_units))
  k_with "call type:type" => ((with_reducible show wpAny _ _ (call (Value.type "type") [Value.bytes _ _]) _ _ _); refine call_type_of (typeIs_bytes _ _ _) (by decide) ?_)
  k_with "call builtin:str.encode" => (refine call_encode ?ha ?hs ?_; (case ha => assumption); (case hs => (first | assumption | omega | decide)))
  k_with "getMethod bytes" => (refine method_translate ?_)
  k_with "getMethod str" => ((with_reducible show wpAny _ _ (getMethod _ (Str.ofString "encode") _) _ _ _); refine method_encode ?_)
  k_with "getMethod type:bytes" => (refine' method_type (T := "bytes") (v := Value.builtin "bytes.maketrans") ?F ?X ty_bytes stub_bytes ?e ?h ?_; (case F => k_asm); (case X => k_asm); (case e => k_dflt k_is); (case h => exact rfl))
  k_with "call builtin:bytes.maketrans" => (refine call_maketrans ?a ?_; (case a => first | rfl | assumption | (simp; done)))
  k_with "call builtin:bytes.translate" => (refine call_translate (tableOf_size _ _) ?a ?_; (case a => first | assumption | omega); intro t9 k9)
  k_with "m for" => (with_unfolding_all (refine' For_invVF ?kF ?k1 ?k2 ?_ ?hs ?hE; (case kF => assumption); (case k1 => exact rfl); (case k2 => exact rfl); (case hs => intro _; rfl); (case hE => passes_own)))
  k_with "m name" => (k_dflt (refine' ld ?k1 ?k2 ?_; (case k1 => k_asm); (case k2 => exact rfl); k_whole))
  k_with "subscriptTail" => ((with_reducible show wpAny _ _ (subscriptTail _ _ (Value.bytes _ _) (Value.int (Builtin.bitAnd _ 63) _)) _ _ _); (with_unfolding_all refine b64_item ?_))
  k_with "storeName" => ((with_reducible show wpAny _ _ (storeName _ _ (Value.int _ _)) _ _ _); (try dsimp only); k_dflt (refine' store_int ?F ?N ?_ ?a ?b; (case F => k_asm); (case N => k_asm); (case a => rfl); (case b => rfl); k_whole; intro t9 k9 h' F' N'; (try k_sweep)))
  k_with "m enterC" => (
  (case ho => k_is)
  (case hcd => k_is)
  (case bind => intro s X; first | exact BindsTo.of_eq rfl | exact binds_K (by k_in) rfl (by k_is) rfl rfl rfl)
  (case loc => exact rfl)
  (case nd => decide +kernel)
  (case pos => decide)
  (case c1 => exact rfl)
  (case c2 => exact rfl)
  (case c3 => exact rfl))
  k_with "call ref" => ((with_reducible show wpAny _ _ (call (Value.ref 116) _ _) _ _ _); refine' Does.use (esc_cdata_does (by assumption)) ?kB ?kF ?kN ?kX ?kT ?kK ?kR ?kU trivial ?_; (walk_at "m used"); intro v9 h9 tk9 st9 F9 N9 hp9; (obtain ⟨t9, hp9⟩ := hp9); subst hp9; (try k_sweep))
  k_with "call ref" => ((with_reducible show wpAny _ _ (call (Value.ref 123) _ _) _ _ _); refine' Does.use (esc_attrib_does (by assumption)) ?kB ?kF ?kN ?kX ?kT ?kK ?kR ?kU trivial ?_; (walk_at "m used"); intro v9 h9 tk9 st9 F9 N9 hp9; (obtain ⟨t9, hp9⟩ := hp9); subst hp9; (try k_sweep))
  k_with "call ref" => ((with_reducible show wpAny _ _ (call (Value.ref 130) _ _) _ _ _); refine' Does.use (esc_attrib_html_does (by assumption)) ?kB ?kF ?kN ?kX ?kT ?kK ?kR ?kU trivial ?_; (walk_at "m used"); intro v9 h9 tk9 st9 F9 N9 hp9; (obtain ⟨t9, hp9⟩ := hp9); subst hp9; (try k_sweep))
  k_with "call ref" => ((with_reducible show wpAny _ _ (call (Value.ref 137) _ _) _ _ _); refine' Does.use (esc_cdata_c14n_does (by assumption)) ?kB ?kF ?kN ?kX ?kT ?kK ?kR ?kU trivial ?_; (walk_at "m used"); intro v9 h9 tk9 st9 F9 N9 hp9; (obtain ⟨t9, hp9⟩ := hp9); subst hp9; (try k_sweep))
  k_with "call ref" => ((with_reducible show wpAny _ _ (call (Value.ref 144) _ _) _ _ _); refine' Does.use (esc_attrib_c14n_does (by assumption)) ?kB ?kF ?kN ?kX ?kT ?kK ?kR ?kU trivial ?_; (walk_at "m used"); intro v9 h9 tk9 st9 F9 N9 hp9; (obtain ⟨t9, hp9⟩ := hp9); subst hp9; (try k_sweep))
  refine' does_of [("way", .int way tk2), ("text", .str (ofL l) tk)] ?ho ?hcd ?bind ?loc ?pos ?_ ?c1 ?c2 ?c3 ?c4
  walk_at "m enter"
  intro p loose mean mg mb dp un gd cn cs L a ccd cl outer base s L' h' hroom hun hpre F' N' B' X' T' ev0 A0
  try dsimp only
  k_fold
  k_steps
  · exact ⟨_, _, rfl, Fr.keep (by assumption), _, by rw [escTab_0 (by omega)]⟩
  · exact ⟨_, _, rfl, Fr.keep (by assumption), _, by rw [escTab_1 (by omega)]⟩
  · exact ⟨_, _, rfl, Fr.keep (by assumption), _, by rw [escTab_2 (by omega)]⟩
  · exact ⟨_, _, rfl, Fr.keep (by assumption), _, by rw [escTab_3 (by omega)]⟩
  · exact ⟨_, _, rfl, Fr.keep (by assumption), _, by rw [escTab_4 (by omega) (by omega) (by omega) (by omega)]⟩
end
section
open PySem PySem.W PyProof.Rows PySem.Calls
set_option maxRecDepth 100000
noncomputable def Fig (f : Int) : Prop := 0 ≤ f ∧ f < 64
noncomputable def num4 (a b c d : Int) : Int := 64 * (64 * (64 * (64 * 0 + a) + b) + c) + d
noncomputable def octL : List Int → List Int
  | a :: b :: c :: d :: r => num4 a b c d / 65536 :: num4 a b c d / 256 % 256 :: num4 a b c d % 256 :: octL r
  | _ => []
theorem ind4 {P : List Int → Prop} (h0 : P []) (h4 : ∀ a b c d r, P r → P (a :: b :: c :: d :: r)) : ∀ l : List Int, l.length % 4 = 0 → P l
  | [], _ => h0
  | [_], h => by simp at h
  | [_, _], h => by simp at h
  | [_, _, _], h => by simp at h
  | a :: b :: c :: d :: r, h => h4 a b c d r (ind4 h0 h4 r (by simp only [List.length_cons] at h; omega))
theorem num4_0 {a b c d : Int} (hb : Fig b) (hc : Fig c) (hd : Fig d) : num4 a b c d / 65536 = a * 4 + b / 16 := by unfold Fig at hb hc hd; unfold num4; omega
theorem num4_1 {a b c d : Int} (hb : Fig b) (hc : Fig c) (hd : Fig d) : num4 a b c d / 256 % 256 = b % 16 * 16 + c / 4 := by unfold Fig at hb hc hd; unfold num4; omega
theorem num4_2 {a b c d : Int} (hc : Fig c) (hd : Fig d) : num4 a b c d % 256 = c % 4 * 64 + d := by unfold Fig at hc hd; unfold num4; omega
theorem octL_range : ∀ fs : List Int, fs.length % 4 = 0 → (∀ f ∈ fs, Fig f) → ∀ k ∈ octL fs, 0 ≤ k ∧ k < 256 :=
  ind4 (fun _ k hk => nomatch hk) fun a b c d r ih hf k hk => by
    have ha := hf a (by simp); have hb := hf b (by simp); have hc := hf c (by simp); have hd := hf d (by simp)
    change k ∈ num4 a b c d / 65536 :: num4 a b c d / 256 % 256 :: num4 a b c d % 256 :: octL r at hk
    rw [num4_0 hb hc hd, num4_1 hb hc hd, num4_2 hc hd] at hk
    have hr := ih (fun f hf' => hf f (by simp [hf'])) k
    clear ih hf
    unfold Fig at ha hb hc hd
    simp only [List.mem_cons] at hk
    rcases hk with hk | hk | hk | hk
    · clear hr; omega
    · clear hr; omega
    · clear hr; omega
    · exact hr hk
theorem octL_length : ∀ fs : List Int, fs.length % 4 = 0 → (octL fs).length ≤ fs.length :=
  ind4 (Nat.le_refl _) fun a b c d r ih => by unfold octL; simp only [List.length_cons]; omega
theorem enc_1 {c0 a b : Int} (ha : Fig a) (hb : Fig b) : (c0 * 256 + (a * 4 + b / 16)) % 65536 / 4 % 64 = a := by unfold Fig at ha hb; omega
theorem enc_2 {x b c : Int} {q : Int} (hx : x % 256 = q * 4 + b / 16) (hb : Fig b) (hc : Fig c) : (x * 256 + (b % 16 * 16 + c / 4)) % 65536 / 16 % 64 = b := by unfold Fig at hb hc; omega
theorem enc_3 {x c d : Int} {q : Int} (hx : x % 256 = q * 16 + c / 4) (hc : Fig c) (hd : Fig d) : (x * 256 + (c % 4 * 64 + d)) % 65536 / 64 % 64 = c := by unfold Fig at hc hd; omega
theorem enc_4 {x c d : Int} (hd : Fig d) : (x * 256 + (c % 4 * 64 + d)) % 65536 % 64 = d := by unfold Fig at hd; omega
theorem enc_m {c k : Int} (h0 : 0 ≤ k) (h1 : k < 256) : (c * 256 + k) % 65536 % 256 = k := by omega
theorem enc_fold : ∀ fs : List Int, fs.length % 4 = 0 → (∀ f ∈ fs, Fig f) → ∀ (c : Int) (out : List Int), ∃ c', (octL fs).foldl b2aStep (0, c, out) = (0, c', out ++ fs.map sgn) :=
  ind4 (fun _ c out => ⟨c, by simp [octL]⟩) fun a b c d r ih hf c0 out => by
    have ha := hf a (by simp); have hb := hf b (by simp); have hc := hf c (by simp); have hd := hf d (by simp)
    have k0 : 0 ≤ a * 4 + b / 16 ∧ a * 4 + b / 16 < 256 := by unfold Fig at ha hb; omega
    have k1 : 0 ≤ b % 16 * 16 + c / 4 ∧ b % 16 * 16 + c / 4 < 256 := by unfold Fig at hb hc; omega
    have hr := fun c0 out => ih (fun f hf' => hf f (by simp [hf'])) c0 out
    clear ih hf
    show ∃ c', (num4 a b c d / 65536 :: num4 a b c d / 256 % 256 :: num4 a b c d % 256 :: octL r).foldl b2aStep (0, c0, out) = (0, c', out ++ sgn a :: sgn b :: sgn c :: sgn d :: r.map sgn)
    rw [num4_0 hb hc hd, num4_1 hb hc hd, num4_2 hc hd]
    obtain ⟨c', e⟩ := hr ((((c0 * 256 + (a * 4 + b / 16)) % 65536 * 256 + (b % 16 * 16 + c / 4)) % 65536 * 256 + (c % 4 * 64 + d)) % 65536) (out ++ [sgn a] ++ [sgn b] ++ [sgn c, sgn d])
    refine ⟨c', ?_⟩
    rw [List.foldl_cons, List.foldl_cons, List.foldl_cons]
    have e1 : b2aStep (0, c0, out) (a * 4 + b / 16) = (2, (c0 * 256 + (a * 4 + b / 16)) % 65536, out ++ [sgn a]) := by
      show (2, _, out ++ [sgn ((c0 * 256 + (a * 4 + b / 16)) % 65536 / 4 % 64)]) = _
      rw [enc_1 ha hb]
    have e2 : ∀ x o, x % 256 = a * 4 + b / 16 → b2aStep (2, x, o) (b % 16 * 16 + c / 4) = (4, (x * 256 + (b % 16 * 16 + c / 4)) % 65536, o ++ [sgn b]) := fun x o hx => by
      show (4, _, o ++ [sgn ((x * 256 + (b % 16 * 16 + c / 4)) % 65536 / 16 % 64)]) = _
      rw [enc_2 hx hb hc]
    have e3 : ∀ x o, x % 256 = b % 16 * 16 + c / 4 → b2aStep (4, x, o) (c % 4 * 64 + d) = (0, (x * 256 + (c % 4 * 64 + d)) % 65536, o ++ [sgn c, sgn d]) := fun x o hx => by
      show (0, _, o ++ [sgn ((x * 256 + (c % 4 * 64 + d)) % 65536 / 64 % 64), sgn ((x * 256 + (c % 4 * 64 + d)) % 65536 % 64)]) = _
      rw [enc_3 hx hc hd, enc_4 hd]
    rw [e1, e2 _ _ (enc_m k0.1 k0.2), e3 _ _ (enc_m k1.1 k1.2), e]
    simp only [List.append_assoc, List.cons_append, List.nil_append]
theorem ints_byteArr {ks : List Int} (h : ∀ k ∈ ks, 0 ≤ k ∧ k < 256) : KBw.bInts (byteArr ks) = ks := by
  show (ks.map fun n => n.toNat.toUInt8).map (fun c => (c.toNat : Int)) = ks
  rw [List.map_map]
  conv => rhs; rw [← List.map_id ks]
  refine List.map_congr_left fun k hk => ?_
  obtain ⟨h0, h1⟩ := h k hk
  show ((k.toNat.toUInt8.toNat : Nat) : Int) = k
  have : k.toNat.toUInt8.toNat = k.toNat % 256 := by simp
  rw [this]
  omega
theorem encOut_row {fs : List Int} (h4 : fs.length % 4 = 0) (hf : ∀ f ∈ fs, Fig f) : encOut (byteArr (octL fs)) = byteArr (fs.map sgn) ∧ ((KBw.bInts (byteArr (octL fs))).foldl b2aStep (0, 0, [])).1 = 0 := by
  unfold encOut
  rw [ints_byteArr (octL_range fs h4 hf)]
  obtain ⟨c', e⟩ := enc_fold fs h4 hf 0 []
  rw [e]
  exact ⟨rfl, rfl⟩
noncomputable def alt (a b c d : Int) (k : Int) : Int := if k = b then d else if k = a then c else k
theorem table_at (a b c d x : UInt8) : (tableOf #[a, b] #[c, d]).getD x.toNat x = if x = b then d else if x = a then c else x := by
  unfold tableOf
  show ((((Array.range 256).map (·.toUInt8)).setIfInBounds a.toNat c).setIfInBounds b.toNat d).getD x.toNat x = _
  have hx := x.toNat_lt
  have hr : ((Array.range 256).map (·.toUInt8))[x.toNat]? = some x := by
    rw [Array.getElem?_map, Array.getElem?_range, if_pos hx]
    simp
  rw [Array.getD_eq_getD_getElem?, Array.getElem?_setIfInBounds, Array.getElem?_setIfInBounds]
  have ea : (a.toNat = x.toNat) = (x = a) := by
    apply propext; constructor
    · intro h; exact (UInt8.toNat_inj.mp h).symm
    · rintro rfl; rfl
  have eb : (b.toNat = x.toNat) = (x = b) := by
    apply propext; constructor
    · intro h; exact (UInt8.toNat_inj.mp h).symm
    · rintro rfl; rfl
  simp only [ea, eb, hr]
  have hs : (((Array.range 256).map (·.toUInt8)).setIfInBounds a.toNat c).size = 256 := by simp
  have hs2 : ((Array.range 256).map (·.toUInt8) : Array UInt8).size = 256 := by simp
  rw [hs, hs2]
  by_cases h1 : x = b
  · subst h1; simp [hx]
  · by_cases h2 : x = a
    · subst h2; simp [h1, hx]
    · simp [h1, h2]
theorem nat_256 {k y : Int} (hk : 0 ≤ k ∧ k < 256) (hy : 0 ≤ y ∧ y < 256) (h : k.toNat % 2 ^ 8 = y.toNat % 2 ^ 8) : k = y := by
  rw [Nat.mod_eq_of_lt ((Int.toNat_lt hk.1).mpr hk.2), Nat.mod_eq_of_lt ((Int.toNat_lt hy.1).mpr hy.2)] at h
  rw [← Int.toNat_of_nonneg hk.1, ← Int.toNat_of_nonneg hy.1, h]
theorem translated_ints {a b c d : Int} (ha : 0 ≤ a ∧ a < 256) (hb : 0 ≤ b ∧ b < 256) (hc : 0 ≤ c ∧ c < 256) (hd : 0 ≤ d ∧ d < 256) {ks : List Int} (h : ∀ k ∈ ks, 0 ≤ k ∧ k < 256) :
    translated (tableOf #[a.toNat.toUInt8, b.toNat.toUInt8] #[c.toNat.toUInt8, d.toNat.toUInt8]) (byteArr ks) = byteArr (ks.map (alt a b c d)) := by
  unfold translated byteArr
  rw [List.map_toArray, List.map_map, List.map_map]
  congr 1
  refine List.map_congr_left fun k hk => ?_
  have hk' := h k hk
  show (tableOf _ _).getD (k.toNat.toUInt8).toNat (k.toNat.toUInt8) = (alt a b c d k).toNat.toUInt8
  rw [table_at]
  have inj : ∀ y : Int, 0 ≤ y ∧ y < 256 → (k.toNat.toUInt8 = y.toNat.toUInt8 ↔ k = y) := fun y hy => by
    constructor
    · intro e
      have := congrArg UInt8.toNat e
      simp only [Nat.toUInt8_eq, UInt8.toNat_ofNat'] at this
      exact nat_256 hk' hy this
    · rintro rfl; rfl
  unfold alt
  by_cases h1 : k = b
  · rw [if_pos ((inj b hb).mpr h1), if_pos h1]
  · rw [if_neg (fun e => h1 ((inj b hb).mp e)), if_neg h1]
    by_cases h2 : k = a
    · rw [if_pos ((inj a ha).mpr h2), if_pos h2]
    · rw [if_neg (fun e => h2 ((inj a ha).mp e)), if_neg h2]
theorem textOf_byteArr {ks : List Int} (h : ∀ k ∈ ks, 0 ≤ k ∧ k < 256) : textOf (byteArr ks) = ks.map Int.toNat := by unfold textOf; rw [ints_byteArr h]
theorem toBytes_ofL (l : List Nat) : toBytes (ofL l) = byteArr (l.map fun n : Nat => (n : Int)) := by
  unfold toBytes byteArr ofL
  rw [List.map_toArray, List.map_map]
  rfl
noncomputable def dec (k : Int) : Option Int := if 64 ≤ b64v k then none else some (b64v k)
noncomputable def a2bV (st : Int × Int × List Int) (v : Int) : Int × Int × List Int :=
  if st.1 = 0 then (1, v, st.2.2) else if st.1 = 1 then (2, v % 16, st.2.2 ++ [st.2.1 * 4 + v / 16]) else if st.1 = 2 then (3, v % 4, st.2.2 ++ [st.2.1 * 16 + v / 4]) else (0, 0, st.2.2 ++ [st.2.1 * 64 + v])
theorem a2b_filter (ks : List Int) : ∀ st, ks.foldl a2bStep st = (ks.filterMap dec).foldl a2bV st := by
  induction ks with
  | nil => intro st; rfl
  | cons k ks ih =>
    intro st
    rw [List.foldl_cons, List.filterMap_cons]
    by_cases h : 64 ≤ b64v k
    · have e1 : a2bStep st k = st := by unfold a2bStep; rw [if_pos h]
      have e2 : dec k = none := by unfold dec; rw [if_pos h]
      rw [e1, e2, ih]
    · have e1 : a2bStep st k = a2bV st (b64v k) := by unfold a2bStep a2bV; rw [if_neg h]
      have e2 : dec k = some (b64v k) := by unfold dec; rw [if_neg h]
      rw [e1, e2, ih]
      rfl
theorem dec_fig {k v : Int} (h : dec k = some v) : Fig v := by
  unfold dec at h
  split at h
  · cases h
  · rename_i h'
    cases h
    have := b64v_nonneg k
    unfold Fig
    omega
theorem a2b_oct : ∀ vs : List Int, vs.length % 4 = 0 → (∀ v ∈ vs, Fig v) → ∀ out, vs.foldl a2bV (0, 0, out) = (0, 0, out ++ octL vs) :=
  ind4 (fun _ out => by simp [octL]) fun a b c d r ih hf out => by
    have hb := hf b (by simp); have hc := hf c (by simp); have hd := hf d (by simp)
    show r.foldl a2bV (0, 0, out ++ [a * 4 + b / 16] ++ [b % 16 * 16 + c / 4] ++ [c % 4 * 64 + d]) = (0, 0, out ++ num4 a b c d / 65536 :: num4 a b c d / 256 % 256 :: num4 a b c d % 256 :: octL r)
    rw [ih fun f hf' => hf f (by simp [hf']), num4_0 hb hc hd, num4_1 hb hc hd, num4_2 hc hd, List.append_assoc, List.append_assoc, List.append_assoc]
    rfl
noncomputable def code (c0 c1 f : Int) : Nat := (alt 43 47 c0 c1 (sgn f)).toNat
noncomputable def sigma (c0 c1 : Int) (tab : List (Nat × List Nat)) (y0 y1 f : Int) : List Int := (escOf tab (code c0 c1 f)).filterMap fun a : Nat => dec (alt y0 y1 43 47 (a : Int))
theorem alt_range {a b c d k : Int} (hc : 0 ≤ c ∧ c < 128) (hd : 0 ≤ d ∧ d < 128) (hk : 0 ≤ k ∧ k < 128) : 0 ≤ alt a b c d k ∧ alt a b c d k < 128 := by
  unfold alt; split
  · exact hd
  · split
    · exact hc
    · exact hk
theorem map_sgn_range {fs : List Int} : ∀ k ∈ fs.map sgn, 0 ≤ k ∧ k < 256 := fun k hk => by
  obtain ⟨f, _, rfl⟩ := List.mem_map.mp hk
  have := sgn_range f
  omega
section
variable {fs : List Int} {c0 c1 y0 y1 : Int} {tab : List (Nat × List Nat)}
theorem enc_text (h4 : fs.length % 4 = 0) (hf : ∀ f ∈ fs, Fig f) (h0 : 0 ≤ c0 ∧ c0 < 128) (h1 : 0 ≤ c1 ∧ c1 < 128) :
    textOf (translated (tableOf #[43, 47] #[c0.toNat.toUInt8, c1.toNat.toUInt8]) (encOut (byteArr (octL fs)))) = fs.map (code c0 c1) := by
  rw [(encOut_row h4 hf).1]
  have := translated_ints (a := 43) (b := 47) (by omega) (by omega) (c := c0) (d := c1) (by omega) (by omega) (map_sgn_range (fs := fs))
  rw [show (#[43, 47] : Array UInt8) = #[(43 : Int).toNat.toUInt8, (47 : Int).toNat.toUInt8] from rfl, this, textOf_byteArr, List.map_map, List.map_map]
  · rfl
  · intro k hk
    obtain ⟨k', hk', rfl⟩ := List.mem_map.mp hk
    obtain ⟨f, _, rfl⟩ := List.mem_map.mp hk'
    have := alt_range (a := 43) (b := 47) h0 h1 (sgn_range f)
    omega
theorem code_lt (h0 : 0 ≤ c0 ∧ c0 < 128) (h1 : 0 ≤ c1 ∧ c1 < 128) (f : Int) : code c0 c1 f < 128 := by
  have := alt_range (a := 43) (b := 47) h0 h1 (sgn_range f)
  unfold code
  omega
theorem escL_lt {l : List Nat} (ht : ∀ p ∈ tab, ∀ a ∈ p.2, a < 128) (hl : ∀ a ∈ l, a < 128) : ∀ a ∈ escL tab l, a < 128 := fun a ha => by
  obtain ⟨b, hb, hab⟩ := List.mem_flatMap.mp ha
  unfold escOf at hab
  cases e : tab.lookup b with
  | some y => rw [e] at hab; exact ht _ (lookup_mem e) a hab
  | none => rw [e] at hab; rw [List.mem_singleton.mp hab]; exact hl b hb
theorem dec_bytes {x : List Nat} (hx : ∀ a ∈ x, a < 128) (h0 : 0 ≤ y0 ∧ y0 < 128) (h1 : 0 ≤ y1 ∧ y1 < 128) :
    KBw.bInts (translated (tableOf #[y0.toNat.toUInt8, y1.toNat.toUInt8] #[43, 47]) (toBytes (ofL x))) = x.map fun a : Nat => alt y0 y1 43 47 (a : Int) := by
  have hr : ∀ k ∈ x.map (fun n : Nat => (n : Int)), 0 ≤ k ∧ k < 256 := fun k hk => by
    obtain ⟨n, hn, rfl⟩ := List.mem_map.mp hk
    have := hx n hn
    omega
  have := translated_ints (a := y0) (b := y1) (c := 43) (d := 47) (by omega) (by omega) (by omega) (by omega) hr
  rw [toBytes_ofL, show (#[43, 47] : Array UInt8) = #[(43 : Int).toNat.toUInt8, (47 : Int).toNat.toUInt8] from rfl, this, ints_byteArr, List.map_map]
  · rfl
  · intro k hk
    obtain ⟨k', hk', rfl⟩ := List.mem_map.mp hk
    obtain ⟨n, hn, rfl⟩ := List.mem_map.mp hk'
    have hn' := hx n hn
    have := alt_range (a := y0) (b := y1) (c := 43) (d := 47) (by omega) (by omega) (k := (n : Int)) (by omega)
    omega
theorem filter_sigma : ((escL tab (fs.map (code c0 c1))).map fun a : Nat => alt y0 y1 43 47 (a : Int)).filterMap dec = fs.flatMap (sigma c0 c1 tab y0 y1) := by
  unfold escL
  rw [List.filterMap_map, List.flatMap_map, List.filterMap_flatMap]
  rfl
theorem dec_fold (h4 : (fs.flatMap (sigma c0 c1 tab y0 y1)).length % 4 = 0) :
    ((escL tab (fs.map (code c0 c1))).map fun a : Nat => alt y0 y1 43 47 (a : Int)).foldl a2bStep (0, 0, []) = (0, 0, octL (fs.flatMap (sigma c0 c1 tab y0 y1))) := by
  rw [a2b_filter, filter_sigma, a2b_oct _ h4]
  · rfl
  · intro v hv
    obtain ⟨f, _, h⟩ := List.mem_flatMap.mp hv
    obtain ⟨a, _, h⟩ := List.mem_filterMap.mp h
    exact dec_fig h
end
end
section
open PySem PySem.W PyProof.Rows PySem.Calls
set_option maxRecDepth 100000
theorem escTab_ok (way : Int) : ∀ p ∈ escTab way, (∀ a ∈ p.2, a < 128 ∧ a ≠ 61) ∧ p.2.length ≤ 6 := by
  have h : ∀ t ∈ [tab_attrib, tab_attrib_c14n, tab_cdata, tab_cdata_c14n, tab_attrib_html], ∀ p ∈ t, (∀ a ∈ p.2, a < 128 ∧ a ≠ 61) ∧ p.2.length ≤ 6 := by decide
  refine h _ ?_
  unfold escTab
  (repeat' split) <;> simp
theorem sgn_ne (f : Int) : sgn f ≠ 61 := by
  unfold sgn
  rw [List.getD_eq_getElem?_getD]
  by_cases h : f.toNat < 64
  · have : ∀ n : Fin 64, ((B64[n.val]?.getD 0).toNat : Int) ≠ 61 := by decide
    exact this ⟨f.toNat, h⟩
  · rw [List.getElem?_eq_none (by show 64 ≤ _; omega)]; decide
theorem alt_ne {a b c d k : Int} (hc : c ≠ 61) (hd : d ≠ 61) (hk : k ≠ 61) : alt a b c d k ≠ 61 := by
  unfold alt; split
  · exact hd
  · split
    · exact hc
    · exact hk
theorem escL_ne {tab : List (Nat × List Nat)} {l : List Nat} (ht : ∀ p ∈ tab, ∀ a ∈ p.2, a ≠ 61) (hl : ∀ a ∈ l, a ≠ 61) : ∀ a ∈ escL tab l, a ≠ 61 := fun a ha => by
  obtain ⟨b, hb, hab⟩ := List.mem_flatMap.mp ha
  unfold escOf at hab
  cases e : tab.lookup b with
  | some y => rw [e] at hab; exact ht _ (lookup_mem e) a hab
  | none => rw [e] at hab; rw [List.mem_singleton.mp hab]; exact hl b hb
theorem octL_append : ∀ xs : List Int, xs.length % 4 = 0 → ∀ ys, octL (xs ++ ys) = octL xs ++ octL ys :=
  ind4 (fun ys => rfl) fun a b c d r ih ys => by
    show _ :: _ :: _ :: octL (r ++ ys) = _ :: _ :: _ :: (octL r ++ octL ys)
    rw [ih]
noncomputable def group (fs : List Int) (i : Nat) : List Int := List.take (min (0 + (i : Int) * 4 + 4).toNat fs.length - (0 + (i : Int) * 4).toNat) (List.drop (0 + (i : Int) * 4).toNat fs)
theorem oct_next {fs : List Int} {i : Nat} {num : Int} (h4 : fs.length % 4 = 0) (hf : ∀ f ∈ fs, Fig f) (hi : i < fs.length / 4) (hnum : num = List.foldl (fun a x => 64 * a + x) 0 (group fs i)) :
    octL (fs.take (4 * (i + 1))) = octL (fs.take (4 * i)) ++ [num.fdiv 65536, (num.fdiv 256).fmod 256, num.fmod 256] := by
  have e1 : (0 + (i : Int) * 4).toNat = 4 * i := by omega
  have e2 : min (0 + (i : Int) * 4 + 4).toNat fs.length - (0 + (i : Int) * 4).toNat = 4 := by omega
  unfold group at hnum
  rw [e2, e1] at hnum
  have e3 : fs.take (4 * (i + 1)) = fs.take (4 * i) ++ (fs.drop (4 * i)).take 4 := by
    rw [show 4 * (i + 1) = 4 * i + 4 by omega, List.take_add]
  have hlen : ((fs.drop (4 * i)).take 4).length = 4 := by rw [List.length_take, List.length_drop]; omega
  have hfig : ∀ f ∈ (fs.drop (4 * i)).take 4, Fig f := fun f h => hf f (List.mem_of_mem_drop (List.mem_of_mem_take h))
  rw [e3, octL_append _ (by rw [List.length_take]; omega)]
  congr 1
  match hg : (fs.drop (4 * i)).take 4, hlen with
  | [a, b, c, d], _ =>
    rw [hg] at hfig hnum
    have hn : num = num4 a b c d := hnum
    have ha := hfig a (by simp); have hb := hfig b (by simp); have hc := hfig c (by simp); have hd := hfig d (by simp)
    unfold Fig at ha hb hc hd
    have h0 : 0 ≤ num := by rw [hn]; unfold num4; omega
    rw [Int.fdiv_eq_ediv_of_nonneg _ (by decide), Int.fdiv_eq_ediv_of_nonneg _ (by decide), Int.fmod_eq_emod_of_nonneg _ (by decide), Int.fmod_eq_emod_of_nonneg _ (by decide), hn]
    rfl
structure StepOk (fs : List Int) (way : Int) (c0 c1 y0 y1 : Nat) : Prop where
  four : fs.length % 4 = 0
  figs : ∀ f ∈ fs, Fig f
  room : fs.length ≤ 50000
  four' : (fs.flatMap (sigma c0 c1 (escTab way) y0 y1)).length % 4 = 0
  lt0 : c0 < 128
  lt1 : c1 < 128
  ne0 : c0 ≠ 61
  ne1 : c1 ≠ 61
  ly0 : y0 < 128
  ly1 : y1 < 128
section
variable {fs : List Int} {way : Int} {c0 c1 y0 y1 : Nat}
noncomputable def txt (fs : List Int) (c0 c1 : Nat) : List Nat := fs.map (code c0 c1)
noncomputable def escd (fs : List Int) (way : Int) (c0 c1 : Nat) : Str := ofL (escL (escTab way) (txt fs c0 c1))
theorem pair_bytes (a b : Nat) : toBytes (ofL [a, b]) = #[(a : Int).toNat.toUInt8, (b : Int).toNat.toUInt8] := by rw [toBytes_ofL]; rfl
theorem cps_lt {l : List Nat} (h : ∀ a ∈ l, a < 128) : ∀ c ∈ (ofL l).cps, c < 128 := fun c hc => h c (by simpa [ofL] using hc)
namespace StepOk
variable (S : StepOk fs way c0 c1 y0 y1)
include S
theorem pairLt : ∀ c ∈ (ofL [c0, c1]).cps, c < 128 := cps_lt fun a ha => by
  rcases List.mem_cons.mp ha with rfl | ha
  · exact S.lt0
  · rw [List.mem_singleton.mp ha]; exact S.lt1
theorem lettersLt : ∀ c ∈ (ofL [y0, y1]).cps, c < 128 := cps_lt fun a ha => by
  rcases List.mem_cons.mp ha with rfl | ha
  · exact S.ly0
  · rw [List.mem_singleton.mp ha]; exact S.ly1
theorem rowSize : (byteArr (octL fs)).size ≤ 1048576 := by
  rw [byteArr_size]
  have := octL_length fs S.four
  have := S.room
  omega
theorem encZero : ((KBw.bInts (byteArr (octL fs))).foldl b2aStep (0, 0, [])).1 = 0 := (encOut_row S.four S.figs).2
theorem encSize : (encOut (byteArr (octL fs))).size ≤ 16777216 := by
  rw [(encOut_row S.four S.figs).1, byteArr_size, List.length_map]
  have := S.room
  omega
theorem text : textOf (translated (tableOf #[43, 47] (toBytes (ofL [c0, c1]))) (encOut (byteArr (octL fs)))) = txt fs c0 c1 := by
  have h0 := S.lt0
  have h1 := S.lt1
  rw [pair_bytes]
  exact enc_text S.four S.figs (by omega) (by omega)
theorem trSize : (translated (tableOf #[43, 47] (toBytes (ofL [c0, c1]))) (encOut (byteArr (octL fs)))).size ≤ 16777216 := by
  unfold translated
  rw [Array.size_map]
  exact S.encSize
theorem txtLen : (txt fs c0 c1).length ≤ 390000 := by
  unfold txt
  rw [List.length_map]
  have := S.room
  omega
theorem escLen : (escd fs way c0 c1).length ≤ 1048576 := by
  unfold escd
  rw [ofL_length]
  have h1 := escL_length (tab := escTab way) (fun p hp => (escTab_ok way p hp).2) (txt fs c0 c1)
  have h2 : (txt fs c0 c1).length = fs.length := by unfold txt; rw [List.length_map]
  have := S.room
  omega
theorem escLen' : (escd fs way c0 c1).length ≤ 16777216 := Nat.le_trans S.escLen (by decide)
theorem escLt' : ∀ a ∈ escL (escTab way) (txt fs c0 c1), a < 128 := by
  have h0 := S.lt0
  have h1 := S.lt1
  refine escL_lt (fun p hp a ha => ((escTab_ok way p hp).1 a ha).1) fun a ha => ?_
  obtain ⟨f, _, rfl⟩ := List.mem_map.mp ha
  exact code_lt (by omega) (by omega) f
theorem escLt : ∀ c ∈ (escd fs way c0 c1).cps, c < 128 := cps_lt S.escLt'
theorem decInts : KBw.bInts (translated (tableOf (toBytes (ofL [y0, y1])) #[43, 47]) (toBytes (escd fs way c0 c1))) = (escL (escTab way) (txt fs c0 c1)).map fun a : Nat => alt y0 y1 43 47 (a : Int) := by
  have h0 := S.ly0
  have h1 := S.ly1
  rw [pair_bytes]
  exact dec_bytes S.escLt' (by omega) (by omega)
theorem no61 : ∀ k ∈ KBw.bInts (translated (tableOf (toBytes (ofL [y0, y1])) #[43, 47]) (toBytes (escd fs way c0 c1))), k ≠ 61 := fun k hk => by
  rw [S.decInts] at hk
  obtain ⟨a, ha, rfl⟩ := List.mem_map.mp hk
  refine alt_ne (by decide) (by decide) ?_
  have : a ≠ 61 := escL_ne (fun p hp a ha => ((escTab_ok way p hp).1 a ha).2) (fun a ha => by
    obtain ⟨f, _, rfl⟩ := List.mem_map.mp ha
    have h0 := S.ne0
    have h1 := S.ne1
    have h3 : alt 43 47 c0 c1 (sgn f) ≠ 61 := alt_ne (by omega) (by omega) (sgn_ne f)
    have h2 := alt_range (a := 43) (b := 47) (c := c0) (d := c1) (by have := S.lt0; omega) (by have := S.lt1; omega) (sgn_range f)
    unfold code
    omega) a ha
  omega
theorem fold : (KBw.bInts (translated (tableOf (toBytes (ofL [y0, y1])) #[43, 47]) (toBytes (escd fs way c0 c1)))).foldl a2bStep (0, 0, []) = (0, 0, octL (fs.flatMap (sigma c0 c1 (escTab way) y0 y1))) := by
  rw [S.decInts]
  exact dec_fold S.four'
theorem decZero : ((KBw.bInts (translated (tableOf (toBytes (ofL [y0, y1])) #[43, 47]) (toBytes (escd fs way c0 c1)))).foldl a2bStep (0, 0, [])).1 = 0 := by rw [S.fold]
end StepOk
end
end
section
open PySem PySem.W PyProof.Rows PySem.Calls

set_option maxRecDepth 100000
set_option maxHeartbeats 8000000
inductive octJ (fs : List Int) (l d : Addr) (i : Nat) (m : Str → Option Value) (nx : List (Addr × Obj)) : Prop
  | mk (vs : List Value) (n : Nat) : IntsAre vs (octL (fs.take (4 * i))) → nx = [(d, W.listOf vs.toArray n)] → m (Str.ofString "octets") = some (.ref d) → m (Str.ofString "figures") = some (.ref l) → octJ fs l d i m nx
theorem octets_does {w : World} {l : Addr} {vs : List Value} {fs : List Int} (hv : IntsAre vs fs) (h4 : fs.length % 4 = 0) (hf : ∀ f ∈ fs, Fig f) (hn : fs.length ≤ 200000) :
    Does w 1 184 [.ref l] [] (fun h => h.IsList l vs.toArray) (fun _ v _ => ∃ t, v = .bytes (byteArr (octL fs)) t) := by
  w_top off
  k_with_none
  k_with "m enter" => (
  (case ho => k_is)
  (case hcd => k_is)
  (case bind => intro s X; first | exact BindsTo.of_eq rfl | exact binds_K (by k_in) rfl (by k_is) rfl rfl rfl)
  (case loc => exact locs rfl)
  (case pos => decide)
  (case c1 => exact rfl)
  (case c2 => exact rfl)
  (case c3 => exact rfl)
  (case c4 => decide))
  k_with "m end" => refine ⟨_, _, rfl, Fr.keep (by assumption), ?_⟩
  k_with "m used" => (
  (case kB => k_asm)
  (case kF => k_asm)
  (case kN => k_asm)
  (case kX => k_asm)
  (case kT => k_asm)
  (case kK => exact rfl)
  (case kR => ktr_room)
  (case kU => ktr_units))
  k_with "call type:type" => ((with_reducible show wpAny _ _ (call (Value.type "type") [Value.bytes _ _]) _ _ _); refine call_type_of (typeIs_bytes _ _ _) (by decide) ?_)
  k_with "call builtin:str.encode" => (refine call_encode ?ha ?hs ?_; (case ha => assumption); (case hs => (first | assumption | omega | decide)))
  k_with "getMethod bytes" => (refine method_translate ?_)
  k_with "getMethod str" => ((with_reducible show wpAny _ _ (getMethod _ (Str.ofString "encode") _) _ _ _); refine method_encode ?_)
  k_with "getMethod type:bytes" => (refine' method_type (T := "bytes") (v := Value.builtin "bytes.maketrans") ?F ?X ty_bytes stub_bytes ?e ?h ?_; (case F => k_asm); (case X => k_asm); (case e => k_dflt k_is); (case h => exact rfl))
  k_with "call builtin:bytes.maketrans" => (refine call_maketrans ?a ?_; (case a => first | rfl | assumption | (simp; done)))
  k_with "call builtin:bytes.translate" => (refine call_translate (tableOf_size _ _) ?a ?_; (case a => first | assumption | omega); intro t9 k9)
  k_with "m for" => (with_unfolding_all (refine' For_invVF ?kF ?k1 ?k2 ?_ ?hs ?hE; (case kF => assumption); (case k1 => exact rfl); (case k2 => exact rfl); (case hs => intro _; rfl); (case hE => passes_own)))
  k_with "m name" => (k_dflt (refine' ld ?k1 ?k2 ?_; (case k1 => k_asm); (case k2 => exact rfl); k_whole))
  k_with "subscriptTail" => ((with_reducible show wpAny _ _ (subscriptTail _ _ (Value.bytes _ _) (Value.int (Builtin.bitAnd _ 63) _)) _ _ _); (with_unfolding_all refine b64_item ?_))
  k_with "storeName" => ((with_reducible show wpAny _ _ (storeName _ _ (Value.int _ _)) _ _ _); (try dsimp only); k_dflt (refine' store_int ?F ?N ?_ ?a ?b; (case F => k_asm); (case N => k_asm); (case a => rfl); (case b => rfl); k_whole; intro t9 k9 h' F' N'; (try k_sweep)))
  k_with "m enterC" => (
  (case ho => k_is)
  (case hcd => k_is)
  (case bind => intro s X; first | exact BindsTo.of_eq rfl | exact binds_K (by k_in) rfl (by k_is) rfl rfl rfl)
  (case loc => exact rfl)
  (case nd => decide +kernel)
  (case pos => decide)
  (case c1 => exact rfl)
  (case c2 => exact rfl)
  (case c3 => exact rfl))
  refine' does_of [("figures", .ref l)] ?ho ?hcd ?bind ?loc ?pos ?_ ?c1 ?c2 ?c3 ?c4
  walk_at "m enter"
  intro p loose mean mg mb dp un gd cn cs L a ccd cl outer base s L' h' hroom hun hpre F' N' B' X' T' ev0 A0
  try dsimp only
  k_fold
  k_steps
  (with_reducible rename Fr _ _ _ _ => F9)
  (with_reducible rename News _ _ _ _ => N9)
  refine iter_rangeN (n := fs.length / 4) (octJ fs l _) rfl (by assumption) ?_ ?_ F9 N9 ⟨[], _, .nil, rfl, rfl, rfl⟩ ?_ ?_
  · exact range_small hn
  · exact range_four h4
  · rintro i t m₁ nx h tk own hi hadr hoff ⟨us, n, hus, rfl, e1, e2⟩ F₁ N₁
    have hul : us.length ≤ 200000 := by
      rw [hus.length]
      have h1 := octL_length (fs.take (4 * i)) (by rw [List.length_take]; omega)
      rw [List.length_take] at h1
      omega
    have F₂ := Fr.at "figures" (.ref _) (Fr.at "octets" (.ref _) F₁ e1) e2
    clear F₁ F9 N9
    dsimp only [List.cons_append, List.nil_append] at N₁ F₂
    (try k_unmd); k_fold
    walk1
    walk1
    walk1
    walk1
    walk1
    walk_at "m for"
    k_with "pyIter ref" => k_state (fun pre num => num = List.foldl (fun a x => 64 * a + x) 0 pre) "number"
    k_with "state" => (first | rfl | (subst_vars; rw [List.foldl_append]; rfl))
    k_steps
    (with_reducible rename Fr _ _ _ _ => F9)
    (with_reducible rename News _ _ _ _ => N9)
    refine' kl_extend F9 N9 ?b rfl ?ne ?U ?d ?z ?y ?_
    (case b => exact List.Mem.head _)
    (case ne => exact Nat.succ_ne_zero _)
    (case U => k_upd)
    (case d => exact ext_room (k := 3) (by omega))
    (case z => rw [sizeLine_eq]; exact Nat.le_trans hul (by decide))
    (case y => rw [sizeLine_eq]; show us.toArray.size + 3 ≤ _; simp only [List.size_toArray]; omega)
    clear F9 N9
    intro h9 F9 N9
    k_steps
    refine end_in F9 N9 (List.Mem.tail _ (List.Mem.tail _ (List.Mem.head _))) (fun p hp => List.Mem.tail _ (List.Mem.tail _ (List.Mem.tail _ hp))) ?_
    exact ⟨_, _, by rw [oct_next h4 hf hi (by assumption)]; exact hus.append (.cons _ _ (.cons _ _ (.cons _ _ .nil))), rfl, rfl, rfl⟩
  · rintro m₁ nx h tk ⟨us, n, hus, rfl, e1, e2⟩ F₁ N₁
    have F₂ := Fr.at "octets" (.ref _) F₁ e1
    clear F₁ F9 N9
    rw [List.take_of_length_le (by omega)] at hus
    have hr := octL_range fs h4 hf
    have hul : us.length ≤ 200000 := by
      rw [hus.length]
      have h1 := octL_length fs h4
      omega
    dsimp only
    k_steps
    exact ⟨_, _, rfl, Fr.keep (by assumption), _, rfl⟩
end
section
open PySem PySem.W PyProof.Rows PySem.Calls

set_option maxRecDepth 100000
set_option maxHeartbeats 8000000
noncomputable def foldY0 (turned : Int) : Nat := if turned = 1 then 59 else 38
noncomputable def foldY1 (turned : Int) : Nat := if turned = 1 then 38 else 59
noncomputable def foldedFigs (fs : List Int) (way turned : Int) (c0 c1 : Nat) : List Int := fs.flatMap (sigma c0 c1 (escTab way) (foldY0 turned) (foldY1 turned))
inductive foldedMid (h₀ : Heap) (L : Addr) (s : Shared) (row : Array UInt8) (way turned : Int) (c0 c1 : Nat) (s' : Shared) : Prop
  | mk (h' : Heap) (k : Nat) (m : Str → Option Value) (t1 t2 t3 t4 : Tok) : s' = { s with heap := h', toks := k } → Fr h₀ L h' m → m (Str.ofString "pair") = some (.bytes (toBytes (ofL [c0, c1])) t1) → m (Str.ofString "row") = some (.bytes row t2) → m (Str.ofString "turned") = some (.int turned t3) → m (Str.ofString "way") = some (.int way t4) → foldedMid h₀ L s row way turned c0 c1 s'
theorem folded_does {w : World} {fs : List Int} {st : Addr} {way turned : Int} {c0 c1 : Nat} {U D : Str} {tk t1 t2 t3 t4 : Tok} (S : StepOk fs way c0 c1 (foldY0 turned) (foldY1 turned)) (hU : 0 < U.length ∧ U.length ≤ 64) (hD : 0 < D.length ∧ D.length ≤ 64) (hUD : Txt.item U 0 ++ Txt.item D 0 = ofL [c0, c1]) :
    Does w 5 170 [.bytes (byteArr (octL fs)) tk, .ref st] [] (fun h => IsTup h st #[.int way t1, .str U t2, .str D t3, .int turned t4])
      (fun _ v _ => ∃ t, v = .bytes (byteArr (octL (foldedFigs fs way turned c0 c1))) t) := by
  w_top off
  k_with_none
  k_with "m enter" => (
  (case ho => k_is)
  (case hcd => k_is)
  (case bind => intro s X; first | exact BindsTo.of_eq rfl | exact binds_K (by k_in) rfl (by k_is) rfl rfl rfl)
  (case loc => exact locs rfl)
  (case pos => decide)
  (case c1 => exact rfl)
  (case c2 => exact rfl)
  (case c3 => exact rfl)
  (case c4 => decide))
  k_with "m end" => refine ⟨_, _, rfl, Fr.keep (by assumption), ?_⟩
  k_with "m used" => (
  (case kB => k_asm)
  (case kF => k_asm)
  (case kN => k_asm)
  (case kX => k_asm)
  (case kT => k_asm)
  (case kK => exact rfl)
  (case kR => ktr_room)
  (case kU => ktr_units))
  k_with "call type:type" => ((with_reducible show wpAny _ _ (call (Value.type "type") [Value.bytes _ _]) _ _ _); refine call_type_of (typeIs_bytes _ _ _) (by decide) ?_)
  k_with "call builtin:str.encode" => (refine call_encode ?ha ?hs ?_; (case ha => assumption); (case hs => (first | assumption | omega | decide)))
  k_with "getMethod bytes" => (refine method_translate ?_)
  k_with "getMethod str" => ((with_reducible show wpAny _ _ (getMethod _ (Str.ofString "encode") _) _ _ _); refine method_encode ?_)
  k_with "getMethod type:bytes" => (refine' method_type (T := "bytes") (v := Value.builtin "bytes.maketrans") ?F ?X ty_bytes stub_bytes ?e ?h ?_; (case F => k_asm); (case X => k_asm); (case e => k_dflt k_is); (case h => exact rfl))
  k_with "call builtin:bytes.maketrans" => (refine call_maketrans ?a ?_; (case a => first | rfl | assumption | (simp; done)))
  k_with "call builtin:bytes.translate" => (refine call_translate (tableOf_size _ _) ?a ?_; (case a => first | assumption | omega); intro t9 k9)
  k_with "m for" => (with_unfolding_all (refine' For_invVF ?kF ?k1 ?k2 ?_ ?hs ?hE; (case kF => assumption); (case k1 => exact rfl); (case k2 => exact rfl); (case hs => intro _; rfl); (case hE => passes_own)))
  k_with "m name" => (k_dflt (refine' ld ?k1 ?k2 ?_; (case k1 => k_asm); (case k2 => exact rfl); k_whole))
  k_with "subscriptTail" => ((with_reducible show wpAny _ _ (subscriptTail _ _ (Value.bytes _ _) (Value.int (Builtin.bitAnd _ 63) _)) _ _ _); (with_unfolding_all refine b64_item ?_))
  k_with "storeName" => ((with_reducible show wpAny _ _ (storeName _ _ (Value.int _ _)) _ _ _); (try dsimp only); k_dflt (refine' store_int ?F ?N ?_ ?a ?b; (case F => k_asm); (case N => k_asm); (case a => rfl); (case b => rfl); k_whole; intro t9 k9 h' F' N'; (try k_sweep)))
  k_with "m enterC" => (
  (case ho => k_is)
  (case hcd => k_is)
  (case bind => intro s X; first | exact BindsTo.of_eq rfl | exact binds_K (by k_in) rfl (by k_is) rfl rfl rfl)
  (case loc => exact rfl)
  (case nd => decide +kernel)
  (case pos => decide)
  (case c1 => exact rfl)
  (case c2 => exact rfl)
  (case c3 => exact rfl))
  k_with "pyIter bytes" => (
  (with_reducible show wpAny _ _ (pyIter (Value.bytes _ _)) (CompPost _ _ _ _ _ _ _ _ _) _ _)
  refine' comp_chr ?F ?X ?T ?e ?hh ?hsz ?hg ?hb ?hk ?hx ?hc ?hd ?_
  (case F => assumption)
  (case X => assumption)
  (case T => assumption)
  (case e => k_dflt k_is)
  (case hh => exact rfl)
  (case hsz => assumption)
  (case hg => exact rfl)
  (case hb => exact rfl)
  (case hk => exact rfl)
  (case hx => exact rfl)
  (case hc => exact rfl)
  (case hd => decide)
  intro D9 h9 tk9 ys9 hl9 hs9 keep9
  (with_reducible rename Fr _ _ _ _ => F8)
  (with_reducible rename News _ _ _ _ => N8)
  (have F9 := Fr.keptAll F8 keep9)
  (have N9 := News.grown N8 keep9)
  (clear F8 N8))
  k_with "call builtin:str.join" => (refine join_chr (by assumption) (by assumption) (by assumption) (by assumption) ?_; intro t9 k9)
  k_with "call ref" => ((with_reducible show wpAny _ _ (call (Value.ref 94) _ _) _ _ _); refine' Does.use (encode_does (by assumption) (by assumption) (by assumption) (by assumption)) ?kB ?kF ?kN ?kX ?kT ?kK ?kR ?kU trivial ?_; (walk_at "m used"); intro v9 h9 tk9 st9 F9 N9 hp9; (obtain ⟨t9, hp9⟩ := hp9); subst hp9; (try k_sweep))
  k_with "call ref" => ((with_reducible show wpAny _ _ (call (Value.ref 165) _ _) _ _ _); refine' Does.use (escaped_does (by assumption)) ?kB ?kF ?kN ?kX ?kT ?kK ?kR ?kU trivial ?_; (walk_at "m used"); intro v9 h9 tk9 st9 F9 N9 hp9; (obtain ⟨t9, hp9⟩ := hp9); subst hp9; (try k_sweep))
  k_with "call ref" => ((with_reducible show wpAny _ _ (call (Value.ref 102) _ _) _ _ _); refine' Does.use (decode_does (by assumption) (by assumption) (by assumption) (by assumption) (by assumption) (by assumption) (by assumption) (by assumption)) ?kB ?kF ?kN ?kX ?kT ?kK ?kR ?kU trivial ?_; (walk_at "m used"); intro v9 h9 tk9 st9 F9 N9 hp9; (obtain ⟨t9, hp9⟩ := hp9); subst hp9; (try k_sweep))
  refine' does_of [("row", .bytes (byteArr (octL fs)) tk), ("fold", .ref st)] ?ho ?hcd ?bind ?loc ?pos ?_ ?c1 ?c2 ?c3 ?c4
  walk_at "m enter"
  intro p loose mean mg mb dp un gd cn cs L a ccd cl outer base s L' h' hroom hun hpre F' N' B' X' T' ev0 A0
  try dsimp only
  k_fold
  refine execs_cut 2 (foldedMid s.heap L' s (byteArr (octL fs)) way turned c0 c1) ?_ ?_
  · dsimp only [List.take_succ_cons, List.take_zero]
    have q1 := S.pairLt
    have q2 : (ofL [c0, c1]).length ≤ 16777216 := (by decide : 2 ≤ 16777216)
    k_steps
    rw [hUD]
    k_steps
    (with_reducible rename Fr _ _ _ _ => F9)
    exact ⟨_, _, _, _, _, _, _, rfl, F9, rfl, rfl, rfl, rfl⟩
  · rintro s' ⟨h2, k2, m2, u1, u2, u3, u4, rfl, F₁, e1, e2, e3, e4⟩
    have F₂ := Fr.at "way" (.int _ u4) (Fr.at "turned" (.int _ u3) (Fr.at "row" (.bytes _ u2) (Fr.at "pair" (.bytes _ u1) F₁ e1) e2) e3) e4
    clear F₁ F' N'
    have N₂ : News s.heap L' h2 [] := News.nil
    have q3 := S.rowSize
    have q4 := S.encZero
    have q5 : (toBytes (ofL [c0, c1])).size = 2 := by rw [pair_bytes]; rfl
    have q6 := S.encSize
    have q7 := S.trSize
    have q8 := S.text
    have q9 := S.txtLen
    have r1 := S.escLt
    have r2 := S.escLen
    have r3 := S.escLen'
    try dsimp only [List.drop_succ_cons, List.drop_zero]
    k_steps
    · have ht : turned = 1 := by assumption
      have g0 : foldY0 turned = 59 := by unfold foldY0; simp [ht]
      have g1 : foldY1 turned = 38 := by unfold foldY1; simp [ht]
      have eY : ofL [59, 38] = Str.ofString ";&" := by decide +kernel

      rw [g0, g1] at S
      have r4 := S.lettersLt
      have r5 : (Str.ofString ";&").length ≤ 16777216 := by decide
      have r6 : (toBytes (ofL [59, 38])).size = 2 := by rw [pair_bytes]; rfl
      have r7 := S.no61
      have r8 := S.decZero
      have r9 := S.fold
      rw [eY] at r4 r6 r7 r8 r9
      k_steps
      exact ⟨_, _, rfl, Fr.keep (by assumption), _, by unfold foldedFigs; rw [g0, g1]; unfold escd at r9; rw [r9]⟩
    · have ht : ¬ turned = 1 := by assumption
      have g0 : foldY0 turned = 38 := by unfold foldY0; simp [ht]
      have g1 : foldY1 turned = 59 := by unfold foldY1; simp [ht]
      have eY : ofL [38, 59] = Str.ofString "&;" := by decide +kernel

      rw [g0, g1] at S
      have r4 := S.lettersLt
      have r5 : (Str.ofString "&;").length ≤ 16777216 := by decide
      have r6 : (toBytes (ofL [38, 59])).size = 2 := by rw [pair_bytes]; rfl
      have r7 := S.no61
      have r8 := S.decZero
      have r9 := S.fold
      rw [eY] at r4 r6 r7 r8 r9
      k_steps
      exact ⟨_, _, rfl, Fr.keep (by assumption), _, by unfold foldedFigs; rw [g0, g1]; unfold escd at r9; rw [r9]⟩
end
section
open PySem PySem.W PyProof.Rows PySem.Calls

set_option maxRecDepth 100000
set_option maxHeartbeats 8000000
structure FoldD where
  way : Int
  turned : Int
  c0 : Nat
  us : List Nat
  c1 : Nat
  ds : List Nat
theorem item_head (c d : Nat) (l r : List Nat) : Txt.item (ofL (c :: l)) 0 ++ Txt.item (ofL (d :: r)) 0 = ofL [c, d] := by
  apply Str.ext'
  have h : ∀ (a : Nat) (x : List Nat), Txt.item (ofL (a :: x)) 0 = ofL [a] := fun a x => by
    have e : (ofL (a :: x)).length = x.length + 1 := by rw [ofL_length, List.length_cons]
    have e2 : (ofL (a :: x)).cps[0]? = some a := by simp [ofL]
    unfold Txt.item Txt.charAt
    rw [e]
    have e3 : seqIndex? 0 (x.length + 1) = some 0 := by simp [seqIndex?]
    rw [e3]
    show (⟨#[((ofL (a :: x)).cps[0]?).getD 0]⟩ : Str) = _
    rw [e2]
    rfl
  rw [h, h, Str.cps_append]
  rfl
noncomputable def FoldAt (h : Heap) (v : Value) (d : FoldD) : Prop :=
  ∃ a t1 t2 t3 t4, v = .ref a ∧ IsTup h a #[.int d.way t1, .str (ofL (d.c0 :: d.us)) t2, .str (ofL (d.c1 :: d.ds)) t3, .int d.turned t4]
noncomputable def FoldsAre (h : Heap) (vs : List Value) (ds : List FoldD) : Prop := vs.length = ds.length ∧ ∀ (i : Nat) v d, vs[i]? = some v → ds[i]? = some d → FoldAt h v d
noncomputable def foldFigs (fs : List Int) (d : FoldD) : List Int := foldedFigs fs d.way d.turned d.c0 d.c1
noncomputable def runFigs (fs : List Int) (ds : List FoldD) : List Int := ds.foldl foldFigs fs
structure DOk (fs : List Int) (d : FoldD) : Prop where
  hu : d.us.length ≤ 60
  hd : d.ds.length ≤ 60
  s : StepOk fs d.way d.c0 d.c1 (foldY0 d.turned) (foldY1 d.turned)
noncomputable def RunOk : List Int → List FoldD → Prop
  | _, [] => True
  | fs, d :: ds => DOk fs d ∧ RunOk (foldFigs fs d) ds
theorem RunOk.at : ∀ {ds : List FoldD} {fs : List Int} {i : Nat} {d : FoldD}, RunOk fs ds → ds[i]? = some d → DOk (runFigs fs (ds.take i)) d
  | [], _, i, _, _, h => by simp at h
  | d :: ds, fs, 0, d', H, h => by cases h; exact H.1
  | d :: ds, fs, i + 1, d', H, h => by
    rw [List.take_succ_cons]
    exact RunOk.at (ds := ds) (fs := foldFigs fs d) H.2 h
theorem runFigs_next {fs : List Int} {ds : List FoldD} {i : Nat} {d : FoldD} (h : ds[i]? = some d) : runFigs fs (ds.take (i + 1)) = foldFigs (runFigs fs (ds.take i)) d := by
  unfold runFigs
  rw [List.take_add_one, h, List.foldl_append]
  rfl
noncomputable def runJ (fs : List Int) (ds : List FoldD) (i : Nat) (m : Str → Option Value) (nx : List (Addr × Obj)) : Prop := nx = [] ∧ ∃ t, m (Str.ofString "row") = some (.bytes (byteArr (octL (runFigs fs (ds.take i)))) t)
theorem run_does {w : World} {fs : List Int} {ds : List FoldD} {l : Addr} {vs : List Value} {tk : Tok} (R : RunOk fs ds) :
    Does w 6 177 [.bytes (byteArr (octL fs)) tk, .ref l] [] (fun h => h.IsList l vs.toArray ∧ FoldsAre h vs ds) (fun _ v _ => ∃ t, v = .bytes (byteArr (octL (runFigs fs ds))) t) := by
  w_top off
  k_with_none
  k_with "m enter" => (
  (case ho => k_is)
  (case hcd => k_is)
  (case bind => intro s X; first | exact BindsTo.of_eq rfl | exact binds_K (by k_in) rfl (by k_is) rfl rfl rfl)
  (case loc => exact locs rfl)
  (case pos => decide)
  (case c1 => exact rfl)
  (case c2 => exact rfl)
  (case c3 => exact rfl)
  (case c4 => decide))
  k_with "m end" => refine ⟨_, _, rfl, Fr.keep (by assumption), ?_⟩
  k_with "m used" => (
  (case kB => k_asm)
  (case kF => k_asm)
  (case kN => k_asm)
  (case kX => k_asm)
  (case kT => k_asm)
  (case kK => exact rfl)
  (case kR => ktr_room)
  (case kU => ktr_units))
  k_with "call type:type" => ((with_reducible show wpAny _ _ (call (Value.type "type") [Value.bytes _ _]) _ _ _); refine call_type_of (typeIs_bytes _ _ _) (by decide) ?_)
  k_with "call builtin:str.encode" => (refine call_encode ?ha ?hs ?_; (case ha => assumption); (case hs => (first | assumption | omega | decide)))
  k_with "getMethod bytes" => (refine method_translate ?_)
  k_with "getMethod str" => ((with_reducible show wpAny _ _ (getMethod _ (Str.ofString "encode") _) _ _ _); refine method_encode ?_)
  k_with "getMethod type:bytes" => (refine' method_type (T := "bytes") (v := Value.builtin "bytes.maketrans") ?F ?X ty_bytes stub_bytes ?e ?h ?_; (case F => k_asm); (case X => k_asm); (case e => k_dflt k_is); (case h => exact rfl))
  k_with "call builtin:bytes.maketrans" => (refine call_maketrans ?a ?_; (case a => first | rfl | assumption | (simp; done)))
  k_with "call builtin:bytes.translate" => (refine call_translate (tableOf_size _ _) ?a ?_; (case a => first | assumption | omega); intro t9 k9)
  k_with "m for" => (with_unfolding_all (refine' For_invVF ?kF ?k1 ?k2 ?_ ?hs ?hE; (case kF => assumption); (case k1 => exact rfl); (case k2 => exact rfl); (case hs => intro _; rfl); (case hE => passes_own)))
  k_with "m name" => (k_dflt (refine' ld ?k1 ?k2 ?_; (case k1 => k_asm); (case k2 => exact rfl); k_whole))
  k_with "subscriptTail" => ((with_reducible show wpAny _ _ (subscriptTail _ _ (Value.bytes _ _) (Value.int (Builtin.bitAnd _ 63) _)) _ _ _); (with_unfolding_all refine b64_item ?_))
  k_with "storeName" => ((with_reducible show wpAny _ _ (storeName _ _ (Value.int _ _)) _ _ _); (try dsimp only); k_dflt (refine' store_int ?F ?N ?_ ?a ?b; (case F => k_asm); (case N => k_asm); (case a => rfl); (case b => rfl); k_whole; intro t9 k9 h' F' N'; (try k_sweep)))
  k_with "m enterC" => (
  (case ho => k_is)
  (case hcd => k_is)
  (case bind => intro s X; first | exact BindsTo.of_eq rfl | exact binds_K (by k_in) rfl (by k_is) rfl rfl rfl)
  (case loc => exact rfl)
  (case nd => decide +kernel)
  (case pos => decide)
  (case c1 => exact rfl)
  (case c2 => exact rfl)
  (case c3 => exact rfl))
  refine' does_of [("row", .bytes (byteArr (octL fs)) tk), ("folds", .ref l)] ?ho ?hcd ?bind ?loc ?pos ?_ ?c1 ?c2 ?c3 ?c4
  walk_at "m enter"
  intro p loose mean mg mb dp un gd cn cs L a ccd cl outer base s L' h' hroom hun hpre F' N' B' X' T' ev0 A0
  try dsimp only
  k_fold
  obtain ⟨hl, hst⟩ := hpre
  walk1
  walk1
  walk_at "m for"
  walk_at "m name"
  refine iter_listN (runJ fs ds) rfl hl F' N' ⟨rfl, _, rfl⟩ ?_ ?_
  · rintro i v m₁ nx h tk own hi hadr hoff ⟨rfl, t, e1⟩ F₁ N₁
    obtain ⟨d, hd⟩ : ∃ d, ds[i]? = some d := by
      have : i < ds.length := by rw [← hst.1]; exact (List.getElem?_eq_some_iff.mp hi).1
      exact ⟨_, List.getElem?_eq_getElem this⟩
    obtain ⟨st, t1, t2, t3, t4, rfl, htup⟩ := hst.2 i v d hi hd
    have F₂ := Fr.at "row" (.bytes _ t) F₁ e1
    clear F₁ F' N'
    have hok := R.at hd
    have hu := hok.hu
    have hd' := hok.hd
    dsimp only [List.nil_append] at N₁ F₂
    (try k_unmd); k_fold
    k_steps
    refine' Does.use (folded_does hok.s ?hU ?hD (item_head d.c0 d.c1 d.us d.ds)) ?kB ?kF ?kN ?kX ?kT ?kK ?kR ?kU ?pre ?_
    (case hU => rw [ofL_length, List.length_cons]; omega)
    (case hD => rw [ofL_length, List.length_cons]; omega)
    (walk_at "m used")
    (case pre => exact IsTup.keeps htup F₂.keep)
    intro v9 h9 tk9 st9 F9 N9 hp9
    obtain ⟨t9, rfl⟩ := hp9
    k_steps
    exact InvEndN.intro (by assumption) (by assumption) ⟨rfl, t9, by rw [runFigs_next hd]; rfl⟩ rfl (fun p hp => nomatch hp) (fun p hp => hp)
  · rintro m₁ nx h tk ⟨rfl, t, e1⟩ F₁ N₁
    have F₂ := Fr.at "row" (.bytes _ t) F₁ e1
    clear F₁ F' N'
    rw [List.take_of_length_le (Nat.le_of_eq hst.1.symm)] at F₂
    dsimp only
    k_steps
    exact ⟨_, _, rfl, Fr.keep (by assumption), _, rfl⟩
end
section
open PySem PySem.W PyProof.Rows PySem.Calls

set_option maxRecDepth 100000
set_option maxHeartbeats 8000000
noncomputable def pieceOf (x : Int) : Int := if (x.fdiv 490).fmod 4 < 2 then 62 + (x.fdiv 490).fmod 4 else (x.fdiv 490).fdiv 4
theorem piece_does {w : World} {x : Int} {tk : Tok} (h0 : 0 ≤ x) (h1 : x < 125440) :
    Does w 1 151 [.int x tk] [] (fun _ => True) (fun _ v _ => ∃ t, v = .int (pieceOf x) t) := by
  w_top off
  k_with_none
  k_with "m enter" => (
  (case ho => k_is)
  (case hcd => k_is)
  (case bind => intro s X; first | exact BindsTo.of_eq rfl | exact binds_K (by k_in) rfl (by k_is) rfl rfl rfl)
  (case loc => exact locs rfl)
  (case pos => decide)
  (case c1 => exact rfl)
  (case c2 => exact rfl)
  (case c3 => exact rfl)
  (case c4 => decide))
  k_with "m end" => refine ⟨_, _, rfl, Fr.keep (by assumption), ?_⟩
  k_with "m used" => (
  (case kB => k_asm)
  (case kF => k_asm)
  (case kN => k_asm)
  (case kX => k_asm)
  (case kT => k_asm)
  (case kK => exact rfl)
  (case kR => ktr_room)
  (case kU => ktr_units))
  k_with "call type:type" => ((with_reducible show wpAny _ _ (call (Value.type "type") [Value.bytes _ _]) _ _ _); refine call_type_of (typeIs_bytes _ _ _) (by decide) ?_)
  k_with "call builtin:str.encode" => (refine call_encode ?ha ?hs ?_; (case ha => assumption); (case hs => (first | assumption | omega | decide)))
  k_with "getMethod bytes" => (refine method_translate ?_)
  k_with "getMethod str" => ((with_reducible show wpAny _ _ (getMethod _ (Str.ofString "encode") _) _ _ _); refine method_encode ?_)
  k_with "getMethod type:bytes" => (refine' method_type (T := "bytes") (v := Value.builtin "bytes.maketrans") ?F ?X ty_bytes stub_bytes ?e ?h ?_; (case F => k_asm); (case X => k_asm); (case e => k_dflt k_is); (case h => exact rfl))
  k_with "call builtin:bytes.maketrans" => (refine call_maketrans ?a ?_; (case a => first | rfl | assumption | (simp; done)))
  k_with "call builtin:bytes.translate" => (refine call_translate (tableOf_size _ _) ?a ?_; (case a => first | assumption | omega); intro t9 k9)
  k_with "m for" => (with_unfolding_all (refine' For_invVF ?kF ?k1 ?k2 ?_ ?hs ?hE; (case kF => assumption); (case k1 => exact rfl); (case k2 => exact rfl); (case hs => intro _; rfl); (case hE => passes_own)))
  k_with "m name" => (k_dflt (refine' ld ?k1 ?k2 ?_; (case k1 => k_asm); (case k2 => exact rfl); k_whole))
  k_with "subscriptTail" => ((with_reducible show wpAny _ _ (subscriptTail _ _ (Value.bytes _ _) (Value.int (Builtin.bitAnd _ 63) _)) _ _ _); (with_unfolding_all refine b64_item ?_))
  k_with "storeName" => ((with_reducible show wpAny _ _ (storeName _ _ (Value.int _ _)) _ _ _); (try dsimp only); k_dflt (refine' store_int ?F ?N ?_ ?a ?b; (case F => k_asm); (case N => k_asm); (case a => rfl); (case b => rfl); k_whole; intro t9 k9 h' F' N'; (try k_sweep)))
  k_with "m enterC" => (
  (case ho => k_is)
  (case hcd => k_is)
  (case bind => intro s X; first | exact BindsTo.of_eq rfl | exact binds_K (by k_in) rfl (by k_is) rfl rfl rfl)
  (case loc => exact rfl)
  (case nd => decide +kernel)
  (case pos => decide)
  (case c1 => exact rfl)
  (case c2 => exact rfl)
  (case c3 => exact rfl))
  refine' does_of [("x", .int x tk)] ?ho ?hcd ?bind ?loc ?pos ?_ ?c1 ?c2 ?c3 ?c4
  walk_at "m enter"
  intro p loose mean mg mb dp un gd cn cs L a ccd cl outer base s L' h' hroom hun hpre F' N' B' X' T' ev0 A0
  try dsimp only
  k_fold
  k_steps
  · walk_at "m end"
    exact ⟨_, by rw [pieceOf, if_pos (by assumption)]⟩
  · walk_at "m end"
    exact ⟨_, by rw [pieceOf, if_neg (by assumption)]⟩
noncomputable def SIGNS : Str := Str.ofString "ABCDEFGHIJKLMNOPQRSTUVWXYZabcdefghijklmnopqrstuvwxyz0123456789"
theorem letters_does {w : World} {l : List Nat} {tk : Tok} (hl : l.length ≤ 60) (ha0 : (ofL l).cps.all (· < 128) = true) :
    Does w 1 189 [.str (ofL l) tk] [] (fun _ => True) (fun h v h' => ∃ d ys, v = .ref d ∧ h.get? d = none ∧ h'.get? d = some (LCg.lst ys) ∧ IntsAre ys (l.map fun c => Txt.find SIGNS (ofL [c]))) := by
  w_top off
  k_with_none
  k_with "m enter" => (
  (case ho => k_is)
  (case hcd => k_is)
  (case bind => intro s X; first | exact BindsTo.of_eq rfl | exact binds_K (by k_in) rfl (by k_is) rfl rfl rfl)
  (case loc => exact locs rfl)
  (case pos => decide)
  (case c1 => exact rfl)
  (case c2 => exact rfl)
  (case c3 => exact rfl)
  (case c4 => decide))
  k_with "m end" => refine ⟨_, _, rfl, Fr.keep (by assumption), ?_⟩
  k_with "m used" => (
  (case kB => k_asm)
  (case kF => k_asm)
  (case kN => k_asm)
  (case kX => k_asm)
  (case kT => k_asm)
  (case kK => exact rfl)
  (case kR => ktr_room)
  (case kU => ktr_units))
  k_with "call type:type" => ((with_reducible show wpAny _ _ (call (Value.type "type") [Value.bytes _ _]) _ _ _); refine call_type_of (typeIs_bytes _ _ _) (by decide) ?_)
  k_with "call builtin:str.encode" => (refine call_encode ?ha ?hs ?_; (case ha => assumption); (case hs => (first | assumption | omega | decide)))
  k_with "getMethod bytes" => (refine method_translate ?_)
  k_with "getMethod str" => ((with_reducible show wpAny _ _ (getMethod _ (Str.ofString "encode") _) _ _ _); refine method_encode ?_)
  k_with "getMethod type:bytes" => (refine' method_type (T := "bytes") (v := Value.builtin "bytes.maketrans") ?F ?X ty_bytes stub_bytes ?e ?h ?_; (case F => k_asm); (case X => k_asm); (case e => k_dflt k_is); (case h => exact rfl))
  k_with "call builtin:bytes.maketrans" => (refine call_maketrans ?a ?_; (case a => first | rfl | assumption | (simp; done)))
  k_with "call builtin:bytes.translate" => (refine call_translate (tableOf_size _ _) ?a ?_; (case a => first | assumption | omega); intro t9 k9)
  k_with "m for" => (with_unfolding_all (refine' For_invVF ?kF ?k1 ?k2 ?_ ?hs ?hE; (case kF => assumption); (case k1 => exact rfl); (case k2 => exact rfl); (case hs => intro _; rfl); (case hE => passes_own)))
  k_with "m name" => (k_dflt (refine' ld ?k1 ?k2 ?_; (case k1 => k_asm); (case k2 => exact rfl); k_whole))
  k_with "subscriptTail" => ((with_reducible show wpAny _ _ (subscriptTail _ _ (Value.bytes _ _) (Value.int (Builtin.bitAnd _ 63) _)) _ _ _); (with_unfolding_all refine b64_item ?_))
  k_with "storeName" => ((with_reducible show wpAny _ _ (storeName _ _ (Value.int _ _)) _ _ _); (try dsimp only); k_dflt (refine' store_int ?F ?N ?_ ?a ?b; (case F => k_asm); (case N => k_asm); (case a => rfl); (case b => rfl); k_whole; intro t9 k9 h' F' N'; (try k_sweep)))
  k_with "m enterC" => (
  (case ho => k_is)
  (case hcd => k_is)
  (case bind => intro s X; first | exact BindsTo.of_eq rfl | exact binds_K (by k_in) rfl (by k_is) rfl rfl rfl)
  (case loc => exact rfl)
  (case nd => decide +kernel)
  (case pos => decide)
  (case c1 => exact rfl)
  (case c2 => exact rfl)
  (case c3 => exact rfl))
  k_with "eval ListComp" => (refine ListComp_G (by assumption) (by with_unfolding_all rfl) (by decide) (by rfl) (by decide) (by rfl) ?_)
  refine' does_ofC [("letters", .str (ofL l) tk)] ?ho ?hcd ?bind ?loc ?nd ?pos ?_ ?c1 ?c2 ?c3
  walk_at "m enterC"
  intro p loose mean mg mb dp un gd cn cs L a ccd cl outer base s L' h' tk0 cells0 hroom hun hpre F' N' Y' B' X' T' ev0 A0
  k_cells Y'
  (try simp only [List.cons_append, List.nil_append] at N')
  try dsimp only
  show wpAny _ _ _ _ _ _
  k_fold
  have ha : (ofL l).cps.all (· < 128) = true := ha0
  have hs : (ofL l).length ≤ 16777216 := by rw [ofL_length]; omega
  walk1
  walk1
  walk1
  walk1
  walk1
  walk1
  refine ListComp_G (by assumption) (by with_unfolding_all rfl) (by decide) (by rfl) (by decide) (by rfl) ?_
  walk1
  (with_reducible rename Fr _ _ _ _ => F9)
  (with_reducible rename News _ _ _ _ => N9)
  refine gsrc_ascii rfl ha hs F9 N9 fun g => rest_inv (n := (ofL l).cps.size) (fun i ys news => news = [(L' + 1, _)] ∧ IntsAre ys ((l.take i).map fun c => Txt.find SIGNS (ofL [c]))) ?_ ?_ _ 0 [] _ (Nat.zero_add _) ⟨rfl, .nil⟩
  · rintro i ys news hi ⟨rfl, hys⟩ v I oI C oC D m₂ h tk E' hP ho hm F₁ N₁ off ne
    obtain ⟨c, u, hc, rfl⟩ := hP
    clear F9 N9
    k_steps
    have hc' : l[i]? = some c := by simpa [ofL] using hc
    refine LCg.CompEnd.intro F₁ N₁ _ (fun p hp => hp) off trivial ⟨rfl, ?_⟩
    rw [List.take_add_one, hc', List.map_append]
    exact hys.append (.cons _ _ .nil)
  · rintro ys news ⟨rfl, hys⟩ D h tk F₁ N₁ off
    rw [List.take_of_length_le (by simp [ofL])] at hys
    exact ⟨_, _, rfl, Fr.keep F₁, D, ys, rfl, (N₁ _ (List.Mem.head _)).2.2, (N₁ _ (List.Mem.head _)).1, hys⟩
end
section
open PySem PySem.W PyProof.Rows PySem.Calls

set_option maxRecDepth 100000
set_option maxHeartbeats 8000000
noncomputable def told (r : Int) : List (Nat × List Nat) :=
  if r = 0 then [(38, [97, 109, 112]), (60, [108, 116]), (62, [103, 116]), (34, [113, 117, 111, 116]), (13, [49, 51]), (10, [49, 48]), (9, [48, 57])]
  else if r = 1 then [(38, [97, 109, 112]), (60, [108, 116]), (34, [113, 117, 111, 116]), (13, [120, 68]), (10, [120, 65]), (9, [120, 57])]
  else if r = 2 then [(38, [97, 109, 112]), (60, [108, 116]), (62, [103, 116])]
  else if r = 3 then [(38, [97, 109, 112]), (60, [108, 116]), (62, [103, 116]), (13, [120, 68])]
  else [(38, [97, 109, 112]), (62, [103, 116]), (34, [113, 117, 111, 116])]
noncomputable def textP (p : Nat × List Nat) : Str := ofL (p.1 :: p.2)
noncomputable def pick (x k : Int) : Nat × List Nat := (told (x.fmod 5)).getD ((x.fdiv k).fmod (told (x.fmod 5)).length).toNat (0, [])
noncomputable def foldOf (x : Int) : FoldD := ⟨x.fmod 5, (x.fdiv 245).fmod 2, (pick x 5).1, (pick x 5).2, (pick x 35).1, (pick x 35).2⟩
theorem row_at {r : Int} (h0 : 0 ≤ r) (h1 : r < 5) : [[Str.ofString "&amp", Str.ofString "<lt", Str.ofString ">gt", Str.ofString "\"quot", Str.ofString "\r13", Str.ofString "\n10", Str.ofString "\t09"], [Str.ofString "&amp", Str.ofString "<lt", Str.ofString "\"quot", Str.ofString "\rxD", Str.ofString "\nxA", Str.ofString "\tx9"],
    [Str.ofString "&amp", Str.ofString "<lt", Str.ofString ">gt"], [Str.ofString "&amp", Str.ofString "<lt", Str.ofString ">gt", Str.ofString "\rxD"], [Str.ofString "&amp", Str.ofString ">gt", Str.ofString "\"quot"]][r.toNat]? = some ((told r).map textP) := by
  have h : r = 0 ∨ r = 1 ∨ r = 2 ∨ r = 3 ∨ r = 4 := by omega
  rcases h with rfl | rfl | rfl | rfl | rfl <;> decide +kernel
theorem told_len (r : Int) : 3 ≤ (told r).length ∧ (told r).length ≤ 7 := by
  unfold told
  (repeat' split) <;> decide
theorem strs_get {vs : List Value} {xs : List Str} (h : StrsAre vs xs) : ∀ {i : Nat} {x : Str}, xs[i]? = some x → ∃ t, vs[i]? = some (.str x t) := by
  induction h with
  | nil => intro i x e; simp at e
  | cons y t _ ih =>
    intro i x e
    cases i with
    | zero => cases e; exact ⟨t, rfl⟩
    | succ i => exact ih e
theorem told_at {vs : List Value} {x k : Int} (hv : StrsAre vs ((told (x.fmod 5)).map textP)) (h0 : 0 ≤ (x.fdiv k).fmod ((told (x.fmod 5)).length : Int)) (h1 : (x.fdiv k).fmod ((told (x.fmod 5)).length : Int) < (told (x.fmod 5)).length) :
    ∃ t, vs[((x.fdiv k).fmod ((told (x.fmod 5)).length : Int)).toNat]? = some (.str (ofL ((pick x k).1 :: (pick x k).2)) t) := by
  unfold pick
  generalize (x.fdiv k).fmod ((told (x.fmod 5)).length : Int) = i at *
  generalize told (x.fmod 5) = l at *
  have hi : i.toNat < l.length := by omega
  rw [List.getD_eq_getElem?_getD, List.getElem?_eq_getElem hi]
  have hg : (l.map textP)[i.toNat]? = some (textP l[i.toNat]) := by rw [List.getElem?_map, List.getElem?_eq_getElem hi]; rfl
  exact strs_get hv hg
theorem len_is {prog : Program} {w : World} {A : Around} {E : Value → Shared → Prop} {s : Shared} {l : Addr} {vs : List Value} {n : Nat} {Q : Value → Shared → Prop} (hl : s.heap.IsList l vs.toArray) (hn : vs.length = n) (hb : n ≤ 16777216)
    (h : Q (.int n (s.toks + 1)) { s with toks := s.toks + 1 + 1 }) : wpAny (model prog w) A (call (.builtin "len") [.ref l]) Q E s := by
  subst hn
  refine Calls.call_len_list hl (by rw [List.size_toArray]; omega) ?_
  rw [List.size_toArray]; exact h
inductive foldMid (h₀ : Heap) (L : Addr) (s : Shared) (x : Int) (s' : Shared) : Prop
  | mk (h' : Heap) (k : Nat) (m : Str → Option Value) (d : Addr) (vs : List Value) (n : Nat) (tx : Tok) : s' = { s with heap := h', toks := k } → Fr h₀ L h' m → News h₀ L h' [(d, W.listOf vs.toArray n)] → StrsAre vs ((told (x.fmod 5)).map textP) → m (Str.ofString "told") = some (.ref d) → m (Str.ofString "x") = some (.int x tx) → foldMid h₀ L s x s'
inductive foldPost (x : Int) (h : Heap) (v : Value) (h' : Heap) : Prop
  | mk (d : Addr) (t1 t2 t3 t4 : Tok) : v = .ref d → h.get? d = none → h'.get? d = some (tupObj [.int (foldOf x).way t1, .str (ofL ((foldOf x).c0 :: (foldOf x).us)) t2, .str (ofL ((foldOf x).c1 :: (foldOf x).ds)) t3, .int (foldOf x).turned t4]) → foldPost x h v h'
theorem fold_does {w : World} {x : Int} {tk : Tok} (h0 : 0 ≤ x) (h1 : x < 125440) :
    Does w 1 158 [.int x tk] [] (fun _ => True) (fun h v h' => foldPost x h v h') := by
  w_top off
  k_with_none
  k_with "m enter" => (
  (case ho => k_is)
  (case hcd => k_is)
  (case bind => intro s X; first | exact BindsTo.of_eq rfl | exact binds_K (by k_in) rfl (by k_is) rfl rfl rfl)
  (case loc => exact locs rfl)
  (case pos => decide)
  (case c1 => exact rfl)
  (case c2 => exact rfl)
  (case c3 => exact rfl)
  (case c4 => decide))
  k_with "m end" => refine ⟨_, _, rfl, Fr.keep (by assumption), ?_⟩
  k_with "m used" => (
  (case kB => k_asm)
  (case kF => k_asm)
  (case kN => k_asm)
  (case kX => k_asm)
  (case kT => k_asm)
  (case kK => exact rfl)
  (case kR => ktr_room)
  (case kU => ktr_units))
  k_with "call type:type" => ((with_reducible show wpAny _ _ (call (Value.type "type") [Value.bytes _ _]) _ _ _); refine call_type_of (typeIs_bytes _ _ _) (by decide) ?_)
  k_with "call builtin:str.encode" => (refine call_encode ?ha ?hs ?_; (case ha => assumption); (case hs => (first | assumption | omega | decide)))
  k_with "getMethod bytes" => (refine method_translate ?_)
  k_with "getMethod str" => ((with_reducible show wpAny _ _ (getMethod _ (Str.ofString "encode") _) _ _ _); refine method_encode ?_)
  k_with "getMethod type:bytes" => (refine' method_type (T := "bytes") (v := Value.builtin "bytes.maketrans") ?F ?X ty_bytes stub_bytes ?e ?h ?_; (case F => k_asm); (case X => k_asm); (case e => k_dflt k_is); (case h => exact rfl))
  k_with "call builtin:bytes.maketrans" => (refine call_maketrans ?a ?_; (case a => first | rfl | assumption | (simp; done)))
  k_with "call builtin:bytes.translate" => (refine call_translate (tableOf_size _ _) ?a ?_; (case a => first | assumption | omega); intro t9 k9)
  k_with "m for" => (with_unfolding_all (refine' For_invVF ?kF ?k1 ?k2 ?_ ?hs ?hE; (case kF => assumption); (case k1 => exact rfl); (case k2 => exact rfl); (case hs => intro _; rfl); (case hE => passes_own)))
  k_with "m name" => (k_dflt (refine' ld ?k1 ?k2 ?_; (case k1 => k_asm); (case k2 => exact rfl); k_whole))
  k_with "subscriptTail" => ((with_reducible show wpAny _ _ (subscriptTail _ _ (Value.bytes _ _) (Value.int (Builtin.bitAnd _ 63) _)) _ _ _); (with_unfolding_all refine b64_item ?_))
  k_with "storeName" => ((with_reducible show wpAny _ _ (storeName _ _ (Value.int _ _)) _ _ _); (try dsimp only); k_dflt (refine' store_int ?F ?N ?_ ?a ?b; (case F => k_asm); (case N => k_asm); (case a => rfl); (case b => rfl); k_whole; intro t9 k9 h' F' N'; (try k_sweep)))
  k_with "m enterC" => (
  (case ho => k_is)
  (case hcd => k_is)
  (case bind => intro s X; first | exact BindsTo.of_eq rfl | exact binds_K (by k_in) rfl (by k_is) rfl rfl rfl)
  (case loc => exact rfl)
  (case nd => decide +kernel)
  (case pos => decide)
  (case c1 => exact rfl)
  (case c2 => exact rfl)
  (case c3 => exact rfl))
  k_with "subscriptTail" => ((with_reducible show wpAny _ _ (subscriptTail _ _ (Value.ref _) (Value.int _ _)) _ _ _); (with_unfolding_all refine sub_list (by assumption) (by assumption) (by omega) (by assumption) ?_))
  k_with "call builtin:len" => (refine len_is (by assumption) (by assumption) (by omega) ?_)
  refine' does_of [("x", .int x tk)] ?ho ?hcd ?bind ?loc ?pos ?_ ?c1 ?c2 ?c3 ?c4
  walk_at "m enter"
  intro p loose mean mg mb dp un gd cn cs L a ccd cl outer base s L' h' hroom hun hpre F' N' B' X' T' ev0 A0
  try dsimp only
  k_fold
  with_reducible refine execs_cut 1 (foldMid s.heap L' s x) ?_ ?_
  · dsimp only [List.take_succ_cons, List.take_zero]
    walk1
    walk1
    walk1
    walk1
    with_reducible refine List_ ?_
    with_reducible refine' rows_items ?c ?l ?_
    (case c => repeat' (first | exact RowsAre.nil | exact ConstsAre.nil | with_reducible apply ConstsAre.cons | with_reducible apply RowsAre.cons))
    (case l => decide)
    intro h2 t2 vs keep2 hlen hrows
    show wpAny _ _ (newObj (.type "list") (.seq vs.toArray)) _ _ _
    with_reducible refine wpAny_newObj_type ?_ ?sz
    (case sz => show vs.toArray.size ≤ sizeLine; rw [List.size_toArray, hlen]; decide)
    have hf0 : 0 ≤ x.fmod 5 := Int.fmod_nonneg_of_pos _ (by decide)
    have hf1 : x.fmod 5 < 5 := Int.fmod_lt_of_pos _ (by decide)
    obtain ⟨a9, us, n9, hx, ha0, ha2, hus⟩ := hrows (x.fmod 5).toNat _ (row_at hf0 hf1)
    have hN : s.heap.get? a9 = none := by
      cases e : s.heap.get? a9 with
      | none => rfl
      | some o => have := F'.keep _ _ e; rw [ha0] at this; cases this
    have hL : a9 ≠ L' := fun q => by obtain ⟨o, _, _, e, _⟩ := F'.ns; rw [q, e] at ha0; cases ha0
    have F2 := (Fr.keeps F' keep2).push { cls := .type "list", data := .seq vs.toArray }
    have hl3 : (h2.push { cls := .type "list", data := .seq vs.toArray }).IsList h2.objs.size vs.toArray := ⟨_, Heap.get?_push_size _ rfl, rfl, _, rfl⟩
    have ha3 := Heap.get?_push_of_some { cls := .type "list", data := .seq vs.toArray } ha2
    dsimp only
    generalize h2.objs.size = l9 at *
    generalize h2.push { cls := .type "list", data := .seq vs.toArray } = h3 at *
    clear hrows hlen keep2 F' N'
    have N2 : News s.heap L' h3 [(a9, W.listOf us n9)] := fun p hp => by rw [List.mem_singleton.mp hp]; exact ⟨ha3, hL, hN⟩
    k_steps
    (with_reducible rename Fr _ _ _ _ => F9)
    (with_reducible rename News _ _ _ _ => N9)
    exact ⟨_, _, _, a9, us.toList, n9, _, rfl, F9, by simpa using N9, hus, rfl, rfl⟩
  · rintro s' ⟨h2, k2, m2, d, vs, n, tx, rfl, F₁, N₁, hv, e1, e2⟩
    have F₂ := Fr.at "x" (.int x tx) (Fr.at "told" (.ref d) F₁ e1) e2
    clear F₁ F' N'
    have hn : vs.length = (told (x.fmod 5)).length := by rw [hv.length, List.length_map]
    have hb := told_len (x.fmod 5)
    try dsimp only [List.drop_succ_cons, List.drop_zero]
    have hl := News.isList N₁ List.mem_cons_self
    have hp := Int.fmod_nonneg_of_pos (x.fdiv 5) (b := ((told (x.fmod 5)).length : Int)) (by omega)
    have hp1 := Int.fmod_lt_of_pos (x.fdiv 5) (b := ((told (x.fmod 5)).length : Int)) (by omega)
    have hq := Int.fmod_nonneg_of_pos (x.fdiv 35) (b := ((told (x.fmod 5)).length : Int)) (by omega)
    have hq1 := Int.fmod_lt_of_pos (x.fdiv 35) (b := ((told (x.fmod 5)).length : Int)) (by omega)
    obtain ⟨t5, hx5⟩ := told_at (k := 5) hv hp hp1
    obtain ⟨t35, hx35⟩ := told_at (k := 35) hv hq hq1
    k_steps
    (with_reducible rename Fr _ _ _ _ => F9)
    (with_reducible rename News _ _ _ _ => N9)
    exact ⟨_, _, rfl, Fr.keep F9, _, _, _, _, _, rfl, (N9 _ (List.Mem.head _)).2.2, (N9 _ (List.Mem.head _)).1⟩
end
section
open PySem PySem.W PyProof.Rows PySem.Calls

set_option maxRecDepth 100000
set_option maxHeartbeats 8000000
noncomputable def letterFigs (us : List Nat) : List Int := us.map fun c => Txt.find SIGNS (ofL [c])
noncomputable def facesOf (p : Int) (ds : List FoldD) : List Int := (p - 62) :: ds.map fun d => d.turned
noncomputable def lastOf (p : Int) (ds : List FoldD) : Int := (facesOf p ds).getD ds.length 0
noncomputable def tz (k : Nat) : Nat := if k % 2 ≠ 0 then 0 else if k % 4 ≠ 0 then 1 else if k % 8 ≠ 0 then 2 else if k % 16 ≠ 0 then 3 else 4
noncomputable def creaseBit (p : Int) (ds : List FoldD) (k : Nat) : Int := ((k / (2 * 2 ^ tz k) : Nat) + (facesOf p ds).getD (ds.length - 1 - tz k) 0) % 2
noncomputable def creaseOf (p : Int) (ds : List FoldD) (k : Nat) : List Nat := match ds[ds.length - 1 - tz k]? with
  | some d => if creaseBit p ds k = 0 then d.us else d.ds
  | none => []
noncomputable def stripAt (p : Int) (ds : List FoldD) : Nat → List Int
  | 0 => [62 + lastOf p ds]
  | i + 1 => stripAt p ds i ++ letterFigs (creaseOf p ds (i + 1)) ++ [62 + ((i + 1 : Nat) + lastOf p ds) % 2]
noncomputable def stripOf (p : Int) (ds : List FoldD) : List Int := if p < 62 then [p] else stripAt p ds (2 ^ ds.length - 1)
theorem pow_cast (a : Nat) : (2 * ((2 ^ a : Nat) : Int)) = ((2 ^ (a + 1) : Nat) : Int) := by rw [Nat.pow_succ]; omega
theorem tz_next {k a n : Nat} (hk : 0 < k) (hk2 : k < 2 ^ n) (h : (k : Int).fmod (2 * ((2 ^ a : Nat) : Int)) = 0) : a + 1 < n ∧ k % 2 ^ (a + 1) = 0 := by
  rw [pow_cast, Int.fmod_eq_emod_of_nonneg _ (Int.natCast_nonneg _), ← Int.natCast_emod] at h
  have h' : k % 2 ^ (a + 1) = 0 := Int.ofNat_inj.mp h
  have h2 : 2 ^ (a + 1) ≤ k := Nat.le_of_dvd hk (Nat.dvd_of_mod_eq_zero h')
  exact ⟨(Nat.pow_lt_pow_iff_right (by decide)).mp (Nat.lt_of_le_of_lt h2 hk2), h'⟩
theorem tz_tab : ∀ (k : Fin 32) (a : Fin 5), k.val % 2 ^ a.val = 0 → k.val % 2 ^ (a.val + 1) ≠ 0 → tz k.val = a.val := by decide +kernel
theorem tz_stop {k a : Nat} (hk : k < 32) (ha : a < 5) (h1 : k % 2 ^ a = 0) (h : ¬ (k : Int).fmod (2 * ((2 ^ a : Nat) : Int)) = 0) : tz k = a := by
  rw [pow_cast, Int.fmod_eq_emod_of_nonneg _ (Int.natCast_nonneg _), ← Int.natCast_emod] at h
  exact tz_tab ⟨k, hk⟩ ⟨a, ha⟩ h1 fun e => h (by rw [e]; rfl)
theorem pow_tab : ∀ a : Fin 5, 1 ≤ ((2 ^ a.val : Nat) : Int) ∧ ((2 ^ a.val : Nat) : Int) ≤ 16 := by decide +kernel
theorem pow_range {a n : Nat} (h : a < n) (hn : n ≤ 5) : 1 ≤ ((2 ^ a : Nat) : Int) ∧ ((2 ^ a : Nat) : Int) ≤ 16 := pow_tab ⟨a, Nat.lt_of_lt_of_le h hn⟩
theorem tz_lt_tab : ∀ (n : Fin 6) (k : Fin 32), 0 < n.val → 0 < k.val → k.val < 2 ^ n.val → tz k.val < n.val := by decide +kernel
theorem pow_32 {k n : Nat} (h5 : n ≤ 5) (h : k < 2 ^ n) : k < 32 := Nat.lt_of_lt_of_le h (Nat.pow_le_pow_right (by decide) h5 : 2 ^ n ≤ 2 ^ 5)
theorem tz_lt {k n : Nat} (h0 : 0 < n) (h5 : n ≤ 5) (hk : 0 < k) (h : k < 2 ^ n) : tz k < n := tz_lt_tab ⟨n, Nat.lt_succ_of_le h5⟩ ⟨k, pow_32 h5 h⟩ h0 hk h
theorem ints_at {vs : List Value} {ns : List Int} (h : IntsAre vs ns) {i : Nat} (hi : i < ns.length) : ∃ t, vs[i]? = some (.int (ns.getD i 0) t) := by
  obtain ⟨t, e⟩ := h.get i ns[i] (by simp [hi])
  exact ⟨t, by rw [e, List.getD_eq_getElem?_getD, List.getElem?_eq_getElem hi]; rfl⟩
theorem crease_at {pc : Int} {ds : List FoldD} {k : Nat} {d : FoldD} {t1 t2 t3 t4 : Tok} (hd : ds[ds.length - 1 - tz k]? = some d) : ∃ (x0 : Nat) (tc : Tok),
    (#[Value.int d.way t1, .str (ofL (d.c0 :: d.us)) t2, .str (ofL (d.c1 :: d.ds)) t3, .int d.turned t4] : Array Value)[(1 + ((k : Int).fdiv (2 * ((2 ^ tz k : Nat) : Int)) + (facesOf pc ds).getD (ds.length - 1 - tz k) 0).fmod 2).toNat]? = some (.str (ofL (x0 :: creaseOf pc ds k)) tc) ∧
    0 ≤ 1 + ((k : Int).fdiv (2 * ((2 ^ tz k : Nat) : Int)) + (facesOf pc ds).getD (ds.length - 1 - tz k) 0).fmod 2 ∧ 1 + ((k : Int).fdiv (2 * ((2 ^ tz k : Nat) : Int)) + (facesOf pc ds).getD (ds.length - 1 - tz k) 0).fmod 2 < 100 := by
  have e : ((k : Int).fdiv (2 * ((2 ^ tz k : Nat) : Int)) + (facesOf pc ds).getD (ds.length - 1 - tz k) 0).fmod 2 = creaseBit pc ds k := by
    unfold creaseBit
    rw [Int.fmod_eq_emod_of_nonneg _ (by decide), Int.fdiv_eq_ediv_of_nonneg _ (Int.mul_nonneg (by decide) (Int.natCast_nonneg _))]
    congr 2
  rw [e]
  have hb : creaseBit pc ds k = 0 ∨ creaseBit pc ds k = 1 := by unfold creaseBit; omega
  unfold creaseOf
  rw [hd]
  rcases hb with hb | hb
  · rw [hb]; exact ⟨d.c0, t2, rfl, by decide, by decide⟩
  · rw [hb]; exact ⟨d.c1, t3, rfl, by decide, by decide⟩
theorem crease_small {pc : Int} {ds : List FoldD} (O : ∀ d ∈ ds, (d.turned = 0 ∨ d.turned = 1) ∧ d.us.length ≤ 4 ∧ d.ds.length ≤ 4 ∧ (∀ c ∈ d.us, c < 128) ∧ (∀ c ∈ d.ds, c < 128)) (k : Nat) : (creaseOf pc ds k).length ≤ 4 ∧ ∀ c ∈ creaseOf pc ds k, c < 128 := by
  unfold creaseOf
  cases e : ds[ds.length - 1 - tz k]? with
  | none => exact ⟨Nat.zero_le _, fun _ h => nomatch h⟩
  | some d =>
    obtain ⟨_, h1, h2, h3, h4⟩ := O d (List.mem_of_getElem? e)
    dsimp only
    split
    · exact ⟨h1, h3⟩
    · exact ⟨h2, h4⟩
theorem all_small {l : List Nat} (h : ∀ c ∈ l, c < 128) : (ofL l).cps.all (· < 128) = true := by
  rw [Array.all_eq_true_iff_forall_mem]
  intro c hc
  exact decide_eq_true (h c (by simpa [ofL] using hc))
theorem strip_len {pc : Int} {ds : List FoldD} (O : ∀ d ∈ ds, (d.turned = 0 ∨ d.turned = 1) ∧ d.us.length ≤ 4 ∧ d.ds.length ≤ 4 ∧ (∀ c ∈ d.us, c < 128) ∧ (∀ c ∈ d.ds, c < 128)) : ∀ i, (stripAt pc ds i).length ≤ 5 * i + 1
  | 0 => Nat.le_refl _
  | i + 1 => by
    have h1 := strip_len O i (pc := pc)
    have h2 := (crease_small (pc := pc) O (i + 1)).1
    unfold stripAt letterFigs
    rw [List.length_append, List.length_append, List.length_map]
    simp only [List.length_cons, List.length_nil]
    omega
theorem strip_turn {pc : Int} {ds : List FoldD} {i : Nat} {us : List Value} (h : IntsAre us (stripAt pc ds i ++ List.map (fun c => Txt.find SIGNS (ofL [c])) (creaseOf pc ds (i + 1)) ++ [62 + (((i + 1 : Nat) : Int) + ((pc - 62) :: ds.map fun d => d.turned).getD (-1 + (((pc - 62) :: ds.map fun d => d.turned).length : Int)).toNat 0).fmod 2])) : IntsAre us (stripAt pc ds (i + 1)) := by
  have e : (-1 + (((pc - 62) :: ds.map fun d => d.turned).length : Int)).toNat = ds.length := by rw [List.length_cons, List.length_map]; omega
  rw [e, Int.fmod_eq_emod_of_nonneg _ (by decide)] at h
  exact h
inductive stripPost (p : Int) (ds : List FoldD) (h : Heap) (v : Value) (h' : Heap) : Prop
  | mk (d : Addr) (ys : List Value) (n : Nat) : v = .ref d → h.get? d = none → h'.get? d = some (W.listOf ys.toArray n) → IntsAre ys (stripOf p ds) → stripPost p ds h v h'
structure FoldsOk (ds : List FoldD) : Prop where
  pos : 0 < ds.length
  most : ds.length ≤ 5
  each : ∀ d ∈ ds, (d.turned = 0 ∨ d.turned = 1) ∧ d.us.length ≤ 4 ∧ d.ds.length ≤ 4 ∧ (∀ c ∈ d.us, c < 128) ∧ (∀ c ∈ d.ds, c < 128)
inductive stripMid (h₀ : Heap) (L l : Addr) (s : Shared) (p : Int) (ds : List FoldD) (s' : Shared) : Prop
  | mk (h' : Heap) (k : Nat) (m : Str → Option Value) (fc sp : Addr) (fvs svs : List Value) (nf ns : Nat) : s' = { s with heap := h', toks := k } → Fr h₀ L h' m → News h₀ L h' [(sp, W.listOf svs.toArray ns), (fc, W.listOf fvs.toArray nf)] → IntsAre fvs (facesOf p ds) → IntsAre svs (stripAt p ds 0) → m (Str.ofString "folds") = some (.ref l) → m (Str.ofString "faces") = some (.ref fc) → m (Str.ofString "strip") = some (.ref sp) → stripMid h₀ L l s p ds s'
theorem last_ints (p : Int) (ds : List FoldD) {t : Tok} : IntsAre [.int (62 + ((p - 62) :: ds.map fun d => d.turned).getD (-1 + (((p - 62) :: ds.map fun d => d.turned).length : Int)).toNat 0) t] (stripAt p ds 0) := by
  have e : (-1 + (((p - 62) :: ds.map fun d => d.turned).length : Int)).toNat = ds.length := by rw [List.length_cons, List.length_map]; omega
  rw [e]
  exact .cons _ _ .nil
inductive stripJ (pc : Int) (ds : List FoldD) (l fc : Addr) (fvs : List Value) (nf i : Nat) (m : Str → Option Value) (nx : List (Addr × Obj)) : Prop
  | mk (sp : Addr) (svs : List Value) (ns : Nat) : nx = [(sp, W.listOf svs.toArray ns), (fc, W.listOf fvs.toArray nf)] → IntsAre svs (stripAt pc ds i) → m (Str.ofString "folds") = some (.ref l) → m (Str.ofString "faces") = some (.ref fc) → m (Str.ofString "strip") = some (.ref sp) → stripJ pc ds l fc fvs nf i m nx
inductive Locals (k a n : Nat) (l fc sp : Addr) (m : Str → Option Value) : Prop
  | mk (t1 t2 t3 : Tok) : m (Str.ofString "power") = some (.int ((2 ^ a : Nat) : Int) t1) → m (Str.ofString "at") = some (.int ((n : Int) - 1 - a) t2) → m (Str.ofString "place") = some (.int (k : Int) t3) → m (Str.ofString "folds") = some (.ref l) → m (Str.ofString "faces") = some (.ref fc) → m (Str.ofString "strip") = some (.ref sp) → Locals k a n l fc sp m
inductive turnMid (h₀ : Heap) (L : Addr) (s : Shared) (news : List (Addr × Obj)) (k a n : Nat) (l fc sp : Addr) (s' : Shared) : Prop
  | mk (h' : Heap) (tk : Nat) (m : Str → Option Value) : s' = { s with heap := h', toks := tk } → Fr h₀ L h' m → News h₀ L h' news → Locals k a n l fc sp m → turnMid h₀ L s news k a n l fc sp s'
theorem strip_does {w : World} {pc : Int} {tk : Tok} {l : Addr} {vs : List Value} {ds : List FoldD} (h0 : 0 ≤ pc) (h1 : pc < 64) (O : FoldsOk ds) :
    Does w 2 194 [.int pc tk, .ref l] [] (fun h => h.IsList l vs.toArray ∧ FoldsAre h vs ds) (fun h v h' => stripPost pc ds h v h') := by
  w_top off
  k_with_none
  k_with "m enter" => (
  (case ho => k_is)
  (case hcd => k_is)
  (case bind => intro s X; first | exact BindsTo.of_eq rfl | exact binds_K (by k_in) rfl (by k_is) rfl rfl rfl)
  (case loc => exact locs rfl)
  (case pos => decide)
  (case c1 => exact rfl)
  (case c2 => exact rfl)
  (case c3 => exact rfl)
  (case c4 => decide))
  k_with "m end" => refine ⟨_, _, rfl, Fr.keep (by assumption), ?_⟩
  k_with "m used" => (
  (case kB => k_asm)
  (case kF => k_asm)
  (case kN => k_asm)
  (case kX => k_asm)
  (case kT => k_asm)
  (case kK => exact rfl)
  (case kR => ktr_room)
  (case kU => ktr_units))
  k_with "call type:type" => ((with_reducible show wpAny _ _ (call (Value.type "type") [Value.bytes _ _]) _ _ _); refine call_type_of (typeIs_bytes _ _ _) (by decide) ?_)
  k_with "call builtin:str.encode" => (refine call_encode ?ha ?hs ?_; (case ha => assumption); (case hs => (first | assumption | omega | decide)))
  k_with "getMethod bytes" => (refine method_translate ?_)
  k_with "getMethod str" => ((with_reducible show wpAny _ _ (getMethod _ (Str.ofString "encode") _) _ _ _); refine method_encode ?_)
  k_with "getMethod type:bytes" => (refine' method_type (T := "bytes") (v := Value.builtin "bytes.maketrans") ?F ?X ty_bytes stub_bytes ?e ?h ?_; (case F => k_asm); (case X => k_asm); (case e => k_dflt k_is); (case h => exact rfl))
  k_with "call builtin:bytes.maketrans" => (refine call_maketrans ?a ?_; (case a => first | rfl | assumption | (simp; done)))
  k_with "call builtin:bytes.translate" => (refine call_translate (tableOf_size _ _) ?a ?_; (case a => first | assumption | omega); intro t9 k9)
  k_with "m for" => (with_unfolding_all (refine' For_invVF ?kF ?k1 ?k2 ?_ ?hs ?hE; (case kF => assumption); (case k1 => exact rfl); (case k2 => exact rfl); (case hs => intro _; rfl); (case hE => passes_own)))
  k_with "m name" => (k_dflt (refine' ld ?k1 ?k2 ?_; (case k1 => k_asm); (case k2 => exact rfl); k_whole))
  k_with "subscriptTail" => ((with_reducible show wpAny _ _ (subscriptTail _ _ (Value.bytes _ _) (Value.int (Builtin.bitAnd _ 63) _)) _ _ _); (with_unfolding_all refine b64_item ?_))
  k_with "storeName" => ((with_reducible show wpAny _ _ (storeName _ _ (Value.int _ _)) _ _ _); (try dsimp only); k_dflt (refine' store_int ?F ?N ?_ ?a ?b; (case F => k_asm); (case N => k_asm); (case a => rfl); (case b => rfl); k_whole; intro t9 k9 h' F' N'; (try k_sweep)))
  k_with "m enterC" => (
  (case ho => k_is)
  (case hcd => k_is)
  (case bind => intro s X; first | exact BindsTo.of_eq rfl | exact binds_K (by k_in) rfl (by k_is) rfl rfl rfl)
  (case loc => exact rfl)
  (case nd => decide +kernel)
  (case pos => decide)
  (case c1 => exact rfl)
  (case c2 => exact rfl)
  (case c3 => exact rfl))
  k_with "eval ListComp" => (k_dflt (refine LCg.ListComp_U (by k_asm) (by with_unfolding_all rfl) (by decide) (by rfl) (by decide) (by rfl) ?_))
  k_with "binaryOp Add ref ref" => (k_dflt (refine' cat_ints ?F ?N ?a ?b ?i ?j ?z ?_; (case F => k_asm); (case N => k_asm); (case a => k_mem); (case b => k_mem); (case i => first | assumption | exact .cons _ _ .nil); (case j => first | assumption | exact .cons _ _ .nil); (case z => simp only [List.length_append, List.length_map, List.length_cons, List.length_nil]; omega)); intro D9 us9 h9 F9 N9 hI9; (try k_sweep))
  k_with "call builtin:len" => (refine len_is (by assumption) (by assumption) (by omega) ?_)
  k_with "subscriptTail" => ((with_reducible show wpAny _ _ (subscriptTail _ _ (Value.ref _) (Value.int _ _)) _ _ _); (try dsimp only); (with_unfolding_all first | refine sub_list (by assumption) (by omega) (by omega) (by assumption) ?_ | refine sub_tup (by assumption) (by assumption) (by assumption) (by assumption) ?_))
  k_with "subscriptTail" => ((with_reducible show wpAny _ _ (subscriptTail _ _ (Value.str (ofL (_ :: _)) _) _) _ _ _); (try dsimp only); (with_unfolding_all refine slice_one (by k_asm) (by k_asm) (by omega) ?_); intro h9 t9 k9 F9 N9; (try k_sweep))
  refine' does_of [("piece", .int pc tk), ("folds", .ref l)] ?ho ?hcd ?bind ?loc ?pos ?_ ?c1 ?c2 ?c3 ?c4
  walk_at "m enter"
  intro p loose mean mg mb dp un gd cn cs L a ccd cl outer base s L' h' hroom hun hpre F' N' B' X' T' ev0 A0
  try dsimp only
  k_fold
  obtain ⟨hl, hst⟩ := hpre
  by_cases hp : pc < 62
  · k_steps
    (with_reducible rename Fr _ _ _ _ => F9)
    (with_reducible rename News _ _ _ _ => N9)
    exact ⟨_, _, rfl, Fr.keep F9, _, _, _, rfl, (N9 _ (List.Mem.head _)).2.2, (N9 _ (List.Mem.head _)).1, by unfold stripOf; rw [if_pos hp]; exact .cons _ _ .nil⟩
  · with_reducible refine execs_cut 3 (stripMid s.heap L' l s pc ds) ?_ ?_
    · dsimp only [List.take_succ_cons, List.take_zero]
      k_steps
      (with_reducible rename Fr _ _ _ _ => F9)
      (with_reducible rename News _ _ _ _ => N9)
      have hsz : vs.toArray.size ≤ sizeLine := by rw [List.size_toArray, hst.1, sizeLine_eq]; have := O.most; omega
      refine LCg.CompSrc.base rfl F9 N9 hl hsz fun g => rest_inv (n := vs.toArray.size) (fun i ys news => news = [(_, W.listOf #[Value.int (pc - 62) _] 0)] ∧ IntsAre ys ((ds.take i).map fun d => d.turned)) ?_ ?_ _ 0 [] _ (Nat.zero_add _) ⟨rfl, .nil⟩
      · rintro i ys news hi ⟨rfl, hys⟩ v I oI C oC D m₂ h tk E' hP ho hm F₁ N₁ off ne
        clear F9 N9
        have hv : vs[i]? = some v := by simpa using hP
        obtain ⟨d, hd⟩ : ∃ d, ds[i]? = some d := ⟨_, List.getElem?_eq_getElem (by rw [← hst.1]; exact (List.getElem?_eq_some_iff.mp hv).1)⟩
        obtain ⟨st, t1, t2, t3, t4, rfl, htup⟩ := hst.2 i v d hv hd
        k_steps
        refine LCg.CompEnd.intro F₁ N₁ _ (fun p hp => hp) off (.inl hl) ⟨rfl, ?_⟩
        rw [List.take_add_one, hd, List.map_append]
        exact hys.append (.cons _ _ .nil)
      · rintro ys news ⟨rfl, hys⟩ D h tk F₁ N₁ off
        rw [List.take_of_length_le (by rw [List.size_toArray, hst.1]; exact Nat.le_refl _)] at hys
        have hyl := hys.length
        rw [List.length_map] at hyl
        have hmost := O.most
        clear F9 N9
        dsimp only
        k_steps
        (with_reducible rename Fr _ _ _ _ => F8)
        (with_reducible rename News _ _ _ _ => N8)
        exact ⟨_, _, _, _, _, us9, [_], 0, 0, rfl, F8, news_two N8, hI9, last_ints pc ds, rfl, rfl, rfl⟩
    · rintro s' ⟨h2, k2, m2, fc, sp, fvs, svs, nf, ns, rfl, F₁, N₁, hfv, hsv, e1, e2, e3⟩
      have F₂ := Fr.at "strip" (.ref sp) (Fr.at "faces" (.ref fc) (Fr.at "folds" (.ref l) F₁ e1) e2) e3
      clear F₁ F' N'
      try dsimp only [List.drop_succ_cons, List.drop_zero]
      have hmost := O.most
      have hpos := O.pos
      have hln := hst.1
      have hl2 : h2.IsList l vs.toArray := hl.at fun o e => F₂.keep _ _ e
      k_steps
      (with_reducible rename Fr _ _ _ _ => F9)
      (with_reducible rename News _ _ _ _ => N9)
      try clear F₂
      dsimp only
      refine iter_rangeG (n := 2 ^ ds.length - 1) (stripJ pc ds l fc fvs nf) rfl (by assumption) (range_pow hpos hmost).1 (range_pow hpos hmost).2 F9 N9 ⟨sp, svs, ns, rfl, hsv, rfl, rfl, rfl⟩ ?_ ?_
      · rintro i t m₁ nx h tk own hi hown ⟨sp', svs', ns', rfl, hsv', e1, e2, e3⟩ F₁ N₁
        clear F9 N9
        have ep : (1 + (i : Int) * 1) = ((i + 1 : Nat) : Int) := by omega
        rw [ep] at F₁
        have F₂ := Fr.at "strip" (.ref sp') (Fr.at "faces" (.ref fc) (Fr.at "folds" (.ref l) F₁ e1) e2) e3
        have hp2 : 0 < 2 ^ ds.length := Nat.pow_pos (by decide)
        have hk1 : i + 1 < 2 ^ ds.length := by omega
        have F₃ : Fr s.heap L' h _ := F₂
        have N₃ : News s.heap L' h (_ ++ own) := N₁
        clear F₁ F₂ N₁
        have hl3 : h.IsList l vs.toArray := hl.at fun o e => F₃.keep _ _ e
        dsimp only [List.cons_append, List.nil_append] at N₃ ⊢
        with_reducible refine execs_cut 1 (turnMid s.heap L' s ((sp', W.listOf svs'.toArray ns') :: (fc, W.listOf fvs.toArray nf) :: own) (i + 1) 0 ds.length l fc sp') ?_ ?_
        · dsimp only [List.take_succ_cons, List.take_zero]
          k_steps
          (with_reducible rename Fr _ _ _ _ => F8)
          (with_reducible rename News _ _ _ _ => N8)
          exact ⟨_, _, _, rfl, F8, fun p hp => N8 p (.tail _ hp), _, _, _, rfl, congrArg (fun z => some (Value.int z _)) (Int.sub_zero _).symm, rfl, rfl, rfl, rfl⟩
        · rintro s' ⟨h4, tk4, m4, rfl, F₄, N₄, hloc⟩
          clear F₃ N₃
          dsimp only [List.drop]
          with_reducible refine execs_cut 1 (turnMid s.heap L' s ((sp', W.listOf svs'.toArray ns') :: (fc, W.listOf fvs.toArray nf) :: own) (i + 1) (tz (i + 1)) ds.length l fc sp') ?_ ?_
          · dsimp only [List.take]
            walk1
            refine While_inv (h₀ := s.heap) (L := L') (n₀ := ds.length) (fun c m nx => nx = (sp', W.listOf svs'.toArray ns') :: (fc, W.listOf fvs.toArray nf) :: own ∧ ∃ a, a < ds.length ∧ c = ds.length - a ∧ (i + 1) % 2 ^ a = 0 ∧ Locals (i + 1) a ds.length l fc sp' m) F₄ N₄ ⟨rfl, 0, hpos, rfl, Nat.mod_one _, hloc⟩ ?_
            rintro c m₅ nx h5 tk5 F₅ N₅ ⟨rfl, a9, ha, rfl, hmod, t1, t2, t3, q1, q2, q3, q4, q5, q6⟩
            clear F₄ N₄
            have hP := pow_range ha hmost
            have F₆ := Fr.at "strip" (.ref sp') (Fr.at "faces" (.ref fc) (Fr.at "folds" (.ref l) (Fr.at "place" (.int _ t3) (Fr.at "at" (.int _ t2) (Fr.at "power" (.int _ t1) F₅ q1) q2) q3) q4) q5) q6
            clear F₅
            try dsimp only
            generalize hPe : ((2 ^ a9 : Nat) : Int) = P at *
            k_steps
            · (with_reducible rename Fr _ _ _ _ => F8)
              (with_reducible rename News _ _ _ _ => N8)
              have hz := tz_next (a := a9) (Nat.succ_pos i) hk1 (by rw [hPe]; assumption)
              refine WhileStep.intro F8 (fun p hp => N8 p (.tail _ hp)) (n' := ds.length - (a9 + 1)) (by omega) ⟨rfl, a9 + 1, hz.1, rfl, hz.2, _, _, t3, congrArg (fun z => some (Value.int z _)) ?_, congrArg (fun z => some (Value.int z _)) ?_, rfl, rfl, rfl, rfl⟩
              · rw [← pow_cast, hPe]
              · omega
            · (with_reducible rename Fr _ _ _ _ => F8)
              (with_reducible rename News _ _ _ _ => N8)
              have hz : tz (i + 1) = a9 := tz_stop (pow_32 hmost hk1) (Nat.lt_of_lt_of_le ha hmost) hmod (by rw [hPe]; assumption)
              rw [hz]
              exact ⟨_, _, _, rfl, F8, N8, _, _, _, congrArg (fun z => some (Value.int z _)) hPe.symm, rfl, rfl, rfl, rfl, rfl⟩
          · rintro s' ⟨h5, tk5, m5, rfl, F₅, N₅, t1, t2, t3, q1, q2, q3, q4, q5, q6⟩
            have F₆ := Fr.at "strip" (.ref sp') (Fr.at "faces" (.ref fc) (Fr.at "folds" (.ref l) (Fr.at "place" (.int _ t3) (Fr.at "at" (.int _ t2) (Fr.at "power" (.int _ t1) F₅ q1) q2) q3) q4) q5) q6
            clear F₅ F₄ N₄
            dsimp only [List.drop]
            have hk0 : 0 < i + 1 := Nat.succ_pos i
            have hT := tz_lt hpos hmost hk0 hk1
            have hP := pow_range hT hmost
            obtain ⟨d, hd⟩ : ∃ d, ds[ds.length - 1 - tz (i + 1)]? = some d := ⟨_, List.getElem?_eq_getElem (by omega)⟩
            obtain ⟨v9, hv9⟩ : ∃ v, vs[ds.length - 1 - tz (i + 1)]? = some v := ⟨_, List.getElem?_eq_getElem (by omega)⟩
            obtain ⟨st, t5, t6, t7, t8, rfl, htup⟩ := hst.2 _ _ d hv9 hd
            have eA : ((ds.length : Int) - 1 - (tz (i + 1) : Int)).toNat = ds.length - 1 - tz (i + 1) := by omega
            obtain ⟨tf, hx2⟩ := ints_at hfv (i := ds.length - 1 - tz (i + 1)) (by unfold facesOf; rw [List.length_cons, List.length_map]; omega)
            obtain ⟨x0, tc, hx3, hx4, hx5⟩ := crease_at (pc := pc) (t1 := t5) (t2 := t6) (t3 := t7) (t4 := t8) hd
            have hcs := crease_small (pc := pc) O.each (i + 1)
            unfold facesOf at hx3 hx4 hx5 hx2
            rw [← eA] at hv9 hx2 hx3 hx4 hx5
            have hl5 : h5.IsList l vs.toArray := hl.at fun o e => F₆.keep _ _ e
            have hf5 : h5.IsList fc fvs.toArray := News.isList N₅ (.tail _ (.head _))
            have ht5 := IsTup.keeps htup F₆.keep
            clear hl3 hl2 hl htup
            generalize ((2 ^ tz (i + 1) : Nat) : Int) = P at *
            generalize hAe : (ds.length : Int) - 1 - (tz (i + 1) : Int) = A9 at *
            have hA0 : 0 ≤ A9 := by omega
            have hA1 : A9 < 100 := by omega
            have hfv' : IntsAre fvs ((pc - 62) :: ds.map fun d => d.turned) := hfv
            clear hfv
            have hsl := strip_len (pc := pc) O.each i
            have hi32 : i < 32 := Nat.lt_of_lt_of_le (by omega) (Nat.pow_le_pow_right (by decide) hmost : 2 ^ ds.length ≤ 2 ^ 5)
            have hls : (ofL (creaseOf pc ds (i + 1))).cps.all (· < 128) = true := all_small hcs.2
            have hll : (creaseOf pc ds (i + 1)).length ≤ 60 := by omega
            k_steps
            (with_reducible rename Fr _ _ _ _ => F8)
            refine' Does.use (letters_does hll hls) ?kB ?kF ?kN ?kX ?kT ?kK ?kR ?kU trivial ?_
            (walk_at "m used")
            intro v9 h9 tk9 st9 F9 N9 hp9
            obtain ⟨d8, ys8, rfl, hd8, hd9, hy9⟩ := hp9
            have N10 := news_add F8 N9 hd8 hd9
            clear N9
            (with_reducible rename Fr _ _ _ _ => F7)
            clear F8
            dsimp only
            k_steps
            (with_reducible rename Fr _ _ _ _ => F8)
            (with_reducible rename News _ _ _ _ => N8)
            exact endG_6 F8 N8 hown rfl rfl ⟨_, us9, 0, rfl, strip_turn (by assumption), rfl, rfl, rfl⟩
      · rintro m₁ nx h tk ⟨sp', svs', ns', rfl, hsv', e1, e2, e3⟩ F₁ N₁
        have F₂ := Fr.at "strip" (.ref sp') F₁ e3
        clear F₁ F9 N9
        dsimp only
        k_steps
        (with_reducible rename News _ _ _ _ => N9)
        exact ⟨_, _, rfl, Fr.keep (by assumption), _, _, _, rfl, (N9 _ (List.Mem.head _)).2.2, (N9 _ (List.Mem.head _)).1, by unfold stripOf; rw [if_neg hp]; exact hsv'⟩
end
section
open PySem PySem.W PyProof.Rows PySem.Calls
set_option maxRecDepth 100000
theorem sig_pieces : ∀ way ∈ [(0 : Int), 1, 2, 3, 4], ∀ p ∈ told way, ∀ t ∈ [(0 : Int), 1],
    ((escOf (escTab way) p.1).filterMap fun a : Nat => dec (alt (foldY0 t) (foldY1 t) 43 47 (a : Int))) = [62 + t] ++ letterFigs p.2 ++ [63 - t] := by decide +kernel
theorem sig_figs : ∀ way ∈ [(0 : Int), 1, 2, 3, 4], ∀ t ∈ [(0 : Int), 1], ∀ f : Fin 62,
    ((escOf (escTab way) (sgn (f.val : Int)).toNat).filterMap fun a : Nat => dec (alt (foldY0 t) (foldY1 t) 43 47 (a : Int))) = [(f.val : Int)] := by decide +kernel
theorem told_letters : ∀ way ∈ [(0 : Int), 1, 2, 3, 4], ∀ p ∈ told way, ∀ z ∈ letterFigs p.2, 0 ≤ z ∧ z < 62 := by decide +kernel
structure Good (d : FoldD) : Prop where
  w : d.way ∈ [(0 : Int), 1, 2, 3, 4]
  t : d.turned ∈ [(0 : Int), 1]
  u : (d.c0, d.us) ∈ told d.way
  v : (d.c1, d.ds) ∈ told d.way
noncomputable def sig (d : FoldD) (f : Int) : List Int := sigma d.c0 d.c1 (escTab d.way) (foldY0 d.turned) (foldY1 d.turned) f
theorem sig_62 {d : FoldD} (g : Good d) : sig d 62 = [62 + d.turned] ++ letterFigs d.us ++ [63 - d.turned] := by
  have e : code d.c0 d.c1 62 = d.c0 := by
    unfold code
    rw [show sgn 62 = 43 from by decide +kernel]
    unfold alt
    rw [if_neg (by decide), if_pos rfl]
    omega
  unfold sig sigma
  rw [e]
  exact sig_pieces _ g.w _ g.u _ g.t
theorem sig_63 {d : FoldD} (g : Good d) : sig d 63 = [62 + d.turned] ++ letterFigs d.ds ++ [63 - d.turned] := by
  have e : code d.c0 d.c1 63 = d.c1 := by
    unfold code
    rw [show sgn 63 = 47 from by decide +kernel]
    unfold alt
    rw [if_pos rfl]
    omega
  unfold sig sigma
  rw [e]
  exact sig_pieces _ g.w _ g.v _ g.t
theorem sgn_low : ∀ f : Fin 62, sgn (f.val : Int) ≠ 43 ∧ sgn (f.val : Int) ≠ 47 := by decide +kernel
theorem sig_low {d : FoldD} (g : Good d) {f : Int} (h0 : 0 ≤ f) (h1 : f < 62) : sig d f = [f] := by
  obtain ⟨n, rfl⟩ := Int.eq_ofNat_of_zero_le h0
  have hn : n < 62 := by omega
  obtain ⟨a, b⟩ := sgn_low ⟨n, hn⟩
  have e : code d.c0 d.c1 (n : Int) = (sgn (n : Int)).toNat := by
    unfold code alt
    rw [if_neg b, if_neg a]
  unfold sig sigma
  rw [e]
  exact sig_figs _ g.w _ g.t ⟨n, hn⟩
theorem sig_letters {d : FoldD} (g : Good d) {zs : List Int} (h : ∀ z ∈ zs, 0 ≤ z ∧ z < 62) : zs.flatMap (sig d) = zs := by
  induction zs with
  | nil => rfl
  | cons a zs ih =>
    rw [List.flatMap_cons, ih fun z hz => h z (.tail _ hz), sig_low g (h a (.head _)).1 (h a (.head _)).2]
    rfl
theorem crease_letters {ds : List FoldD} (G : ∀ d ∈ ds, Good d) (p : Int) (k : Nat) : ∀ z ∈ letterFigs (creaseOf p ds k), 0 ≤ z ∧ z < 62 := by
  unfold creaseOf
  cases e : ds[ds.length - 1 - tz k]? with
  | none => intro z hz; simp [letterFigs] at hz
  | some d =>
    have g := G d (List.mem_of_getElem? e)
    dsimp only
    split
    · exact told_letters _ g.w _ g.u
    · exact told_letters _ g.w _ g.v
theorem turned_01 {d : FoldD} (g : Good d) : d.turned = 0 ∨ d.turned = 1 := by
  rcases List.mem_cons.mp g.t with h | h
  · exact .inl h
  · exact .inr (List.mem_singleton.mp h)
theorem face_01 {p : Int} (hp : p = 62 ∨ p = 63) {ds : List FoldD} (G : ∀ d ∈ ds, Good d) (i : Nat) : (facesOf p ds).getD i 0 = 0 ∨ (facesOf p ds).getD i 0 = 1 := by
  rw [List.getD_eq_getElem?_getD]
  cases e : (facesOf p ds)[i]? with
  | none => exact .inl rfl
  | some z =>
    show z = 0 ∨ z = 1
    have := List.mem_of_getElem? e
    unfold facesOf at this
    rcases List.mem_cons.mp this with h | h
    · omega
    · obtain ⟨d, hd, rfl⟩ := List.mem_map.mp h
      exact turned_01 (G d hd)
theorem faces_snoc (p : Int) (ds : List FoldD) (d : FoldD) {i : Nat} (h : i ≤ ds.length) : (facesOf p (ds ++ [d])).getD i 0 = (facesOf p ds).getD i 0 := by
  unfold facesOf
  rw [List.map_append, List.getD_eq_getElem?_getD, List.getD_eq_getElem?_getD, ← List.cons_append, List.getElem?_append_left (by rw [List.length_cons, List.length_map]; omega)]
theorem last_snoc (p : Int) (ds : List FoldD) (d : FoldD) : lastOf p (ds ++ [d]) = d.turned := by
  unfold lastOf facesOf
  rw [List.map_append, List.length_append, List.getD_eq_getElem?_getD, ← List.cons_append, List.getElem?_append_right (by rw [List.length_cons, List.length_map]; exact Nat.le_refl _)]
  simp
theorem crease_odd (p : Int) (ds : List FoldD) (d : FoldD) (m : Nat) (h : lastOf p ds = 0 ∨ lastOf p ds = 1) : creaseOf p (ds ++ [d]) (2 * m + 1) = if ((m : Int) + lastOf p ds) % 2 = 0 then d.us else d.ds := by
  have ht : tz (2 * m + 1) = 0 := by unfold tz; rw [if_pos (by omega)]
  have hl : (ds ++ [d]).length - 1 - 0 = ds.length := by rw [List.length_append]; simp
  have hb : creaseBit p (ds ++ [d]) (2 * m + 1) = ((m : Int) + lastOf p ds) % 2 := by
    unfold creaseBit
    rw [ht, hl, faces_snoc p ds d (Nat.le_refl _)]
    have : (2 * m + 1) / (2 * 2 ^ 0) = m := by omega
    rw [this]; rfl
  unfold creaseOf
  rw [hb, ht, hl]
  simp
theorem tz_dbl : ∀ k : Fin 16, 0 < k.val → tz (2 * k.val) = tz k.val + 1 := by decide +kernel
theorem crease_even (p : Int) (ds : List FoldD) (d : FoldD) {k : Nat} (h0 : 0 < k) (h1 : k < 2 ^ ds.length) (hn : ds.length ≤ 4) : creaseOf p (ds ++ [d]) (2 * k) = creaseOf p ds k := by
  have hpos : 0 < ds.length := by
    rcases Nat.eq_zero_or_pos ds.length with e | e
    · rw [e] at h1; omega
    · exact e
  have hk16 : k < 16 := Nat.lt_of_lt_of_le h1 (Nat.pow_le_pow_right (by decide) hn : 2 ^ ds.length ≤ 2 ^ 4)
  have ht : tz (2 * k) = tz k + 1 := tz_dbl ⟨k, hk16⟩ h0
  have hlt := tz_lt hpos (by omega) h0 h1
  have hl : (ds ++ [d]).length - 1 - (tz k + 1) = ds.length - 1 - tz k := by rw [List.length_append]; simp; omega
  have hb : creaseBit p (ds ++ [d]) (2 * k) = creaseBit p ds k := by
    unfold creaseBit
    rw [ht, hl, faces_snoc p ds d (by omega)]
    have : 2 * k / (2 * 2 ^ (tz k + 1)) = k / (2 * 2 ^ tz k) := by
      rw [Nat.pow_succ, show 2 * (2 ^ tz k * 2) = 2 * (2 * 2 ^ tz k) by omega, Nat.mul_div_mul_left _ _ (by decide)]
    rw [this]
  unfold creaseOf
  rw [hb, ht, hl, List.getElem?_append_left (by omega)]
theorem sig_face {d : FoldD} (g : Good d) {z : Int} (h : z = 0 ∨ z = 1) : sig d (62 + z) = [62 + d.turned] ++ letterFigs (if z = 0 then d.us else d.ds) ++ [63 - d.turned] := by
  rcases h with rfl | rfl
  · exact sig_62 g
  · exact sig_63 g
theorem strip_fold {p : Int} (hp : p = 62 ∨ p = 63) {ds : List FoldD} {d : FoldD} (G : ∀ d ∈ ds, Good d) (g : Good d) (hn : ds.length ≤ 4) : ∀ m, m < 2 ^ ds.length → (stripAt p ds m).flatMap (sig d) = stripAt p (ds ++ [d]) (2 * m + 1)
  | 0, _ => by
    have hl : lastOf p ds = 0 ∨ lastOf p ds = 1 := face_01 hp G ds.length
    have ht := turned_01 g
    have hc := crease_odd p ds d 0 hl
    show ([62 + lastOf p ds]).flatMap (sig d) = ([62 + lastOf p (ds ++ [d])] ++ letterFigs (creaseOf p (ds ++ [d]) 1) ++ [62 + ((1 : Nat) + lastOf p (ds ++ [d])) % 2])
    rw [show creaseOf p (ds ++ [d]) 1 = _ from hc, last_snoc, List.flatMap_cons, List.flatMap_nil, List.append_nil, sig_face g hl]
    have e1 : (((0 : Nat) : Int) + lastOf p ds) % 2 = 0 ↔ lastOf p ds = 0 := by omega
    have e2 : 63 - d.turned = 62 + (((1 : Nat) : Int) + d.turned) % 2 := by omega
    rw [e2]
    simp only [e1]
  | m + 1, hm => by
    have ih := strip_fold hp G g hn m (by omega)
    have hl : lastOf p ds = 0 ∨ lastOf p ds = 1 := face_01 hp G ds.length
    have ht := turned_01 g
    have hb : (((m + 1 : Nat) : Int) + lastOf p ds) % 2 = 0 ∨ (((m + 1 : Nat) : Int) + lastOf p ds) % 2 = 1 := by omega
    have hc := crease_odd p ds d (m + 1) hl
    have he := crease_even p ds d (Nat.succ_pos m) hm hn
    show (stripAt p ds m ++ letterFigs (creaseOf p ds (m + 1)) ++ [62 + ((m + 1 : Nat) + lastOf p ds) % 2]).flatMap (sig d) = _
    rw [List.flatMap_append, List.flatMap_append, ih, sig_letters g (crease_letters G p (m + 1)), List.flatMap_cons, List.flatMap_nil, List.append_nil, sig_face g hb]
    show _ = (stripAt p (ds ++ [d]) (2 * m + 1) ++ letterFigs (creaseOf p (ds ++ [d]) (2 * m + 1 + 1)) ++ [62 + ((2 * m + 1 + 1 : Nat) + lastOf p (ds ++ [d])) % 2]) ++ letterFigs (creaseOf p (ds ++ [d]) (2 * m + 1 + 1 + 1)) ++ [62 + ((2 * m + 1 + 1 + 1 : Nat) + lastOf p (ds ++ [d])) % 2]
    rw [show 2 * m + 1 + 1 = 2 * (m + 1) by omega, he, hc, last_snoc]
    have e1 : (((2 * (m + 1) : Nat) : Int) + d.turned) % 2 = d.turned := by omega
    have e2 : (((2 * (m + 1) + 1 : Nat) : Int) + d.turned) % 2 = 1 - d.turned := by omega
    rw [e1, e2]
    have e3 : 62 + (1 - d.turned) = 63 - d.turned := by omega
    rw [e3]
    simp only [List.append_assoc]
theorem fold_sig (fs : List Int) (d : FoldD) : foldFigs fs d = fs.flatMap (sig d) := rfl
theorem run_append (ds : List FoldD) : ∀ xs ys : List Int, runFigs (xs ++ ys) ds = runFigs xs ds ++ runFigs ys ds := by
  induction ds with
  | nil => intro xs ys; rfl
  | cons d ds ih =>
    intro xs ys
    show runFigs (foldFigs (xs ++ ys) d) ds = runFigs (foldFigs xs d) ds ++ runFigs (foldFigs ys d) ds
    rw [fold_sig, List.flatMap_append, ih]; rfl
theorem run_nil (ds : List FoldD) : runFigs [] ds = [] := by
  induction ds with
  | nil => rfl
  | cons d ds ih => exact ih
theorem run_flat (ds : List FoldD) : ∀ xs : List Int, runFigs xs ds = xs.flatMap fun z => runFigs [z] ds
  | [] => run_nil ds
  | x :: xs => by
    rw [List.flatMap_cons, ← run_flat ds xs, ← run_append]; rfl
theorem run_snoc (fs : List Int) (ds : List FoldD) (d : FoldD) : runFigs fs (ds ++ [d]) = (runFigs fs ds).flatMap (sig d) := by
  unfold runFigs
  rw [List.foldl_append]; rfl
theorem run_low {z : Int} (h0 : 0 ≤ z) (h1 : z < 62) : ∀ {ds : List FoldD}, (∀ d ∈ ds, Good d) → runFigs [z] ds = [z]
  | [], _ => rfl
  | d :: ds, G => by
    show runFigs (([z] : List Int).flatMap (sig d)) ds = [z]
    rw [List.flatMap_cons, List.flatMap_nil, List.append_nil, sig_low (G d (.head _)) h0 h1]
    exact run_low h0 h1 fun d hd => G d (.tail _ hd)
theorem run_strip {p : Int} (hp : p = 62 ∨ p = 63) : ∀ (n : Nat) (ds : List FoldD), ds.length = n → n ≤ 5 → (∀ d ∈ ds, Good d) → runFigs [p] ds = stripAt p ds (2 ^ n - 1)
  | 0, ds, hl, _, _ => by
    obtain rfl := List.eq_nil_of_length_eq_zero hl
    show [p] = [62 + (p - 62)]
    congr 1; omega
  | n + 1, ds, hl, hn, G => by
    obtain ⟨init, d, rfl⟩ : ∃ init d, ds = init ++ [d] := by
      rcases List.eq_nil_or_concat ds with rfl | ⟨i, d, rfl⟩
      · simp at hl
      · exact ⟨i, d, by simp⟩
    have hi : init.length = n := by rw [List.length_append] at hl; simpa using hl
    have Gi : ∀ d ∈ init, Good d := fun d hd => G d (List.mem_append_left _ hd)
    have hp2 : 0 < 2 ^ n := Nat.pow_pos (by decide)
    rw [run_snoc, run_strip hp n init hi (by omega) Gi, strip_fold hp Gi (G d (List.mem_append_right _ (.head _))) (by omega) _ (by rw [hi]; omega)]
    congr 1
    rw [Nat.pow_succ]; omega
theorem run_one {ds : List FoldD} (hn : ds.length ≤ 5) (G : ∀ d ∈ ds, Good d) {z : Int} (h0 : 0 ≤ z) (h1 : z < 64) : runFigs [z] ds = stripOf z ds := by
  unfold stripOf
  split
  · exact run_low h0 (by assumption) G
  · exact run_strip (by omega) _ ds rfl hn G
theorem flat_congr {f g : Int → List Int} : ∀ {zs : List Int}, (∀ z ∈ zs, f z = g z) → zs.flatMap f = zs.flatMap g
  | [], _ => rfl
  | z :: zs, h => by rw [List.flatMap_cons, List.flatMap_cons, h z (.head _), flat_congr fun z hz => h z (.tail _ hz)]
theorem rep_eq (zs : List Int) : (List.replicate (Int.toNat 4) zs).flatten = zs ++ (zs ++ (zs ++ (zs ++ []))) := rfl
theorem run_due {ds : List FoldD} (hn : ds.length ≤ 5) (G : ∀ d ∈ ds, Good d) {zs : List Int} (h : ∀ z ∈ zs, 0 ≤ z ∧ z < 64) :
    runFigs (List.replicate (Int.toNat 4) zs).flatten ds = (List.replicate (Int.toNat 4) (zs.flatMap fun z => stripOf z ds)).flatten := by
  have e : runFigs zs ds = zs.flatMap fun z => stripOf z ds := by
    rw [run_flat]
    exact flat_congr fun z hz => run_one hn G (h z hz).1 (h z hz).2
  rw [rep_eq, rep_eq, run_append, run_append, run_append, run_append, run_nil, e]
theorem told_ok (r : Int) : ∀ p ∈ told r, p.1 < 128 ∧ p.1 ≠ 61 ∧ p.2.length ≤ 4 ∧ ∀ c ∈ p.2, c < 128 := by
  unfold told
  (repeat' split) <;> decide
theorem told_small (r : Int) (p : Nat × List Nat) (h : p ∈ told r) : p.2.length ≤ 4 := (told_ok r p h).2.2.1
theorem sig_small {d : FoldD} (g : Good d) {z : Int} (h : Fig z) : (sig d z).length ≤ 6 ∧ ∀ y ∈ sig d z, Fig y := by
  unfold Fig at h
  have ht := turned_01 g
  have key : ∀ us, (∀ z ∈ letterFigs us, 0 ≤ z ∧ z < 62) → us.length ≤ 4 → ([62 + d.turned] ++ letterFigs us ++ [63 - d.turned]).length ≤ 6 ∧ ∀ y ∈ [62 + d.turned] ++ letterFigs us ++ [63 - d.turned], Fig y := fun us hu hl => by
    refine ⟨by unfold letterFigs; simp only [List.length_append, List.length_map, List.length_cons, List.length_nil]; omega, fun y hy => ?_⟩
    unfold Fig
    rcases List.mem_append.mp hy with hy | hy
    · rcases List.mem_append.mp hy with hy | hy
      · rw [List.mem_singleton.mp hy]; omega
      · have := hu y hy; omega
    · rw [List.mem_singleton.mp hy]; omega
  by_cases h62 : z < 62
  · rw [sig_low g h.1 h62]
    exact ⟨Nat.le_succ_of_le (by decide : 1 ≤ 5), fun y hy => by rw [List.mem_singleton.mp hy]; exact h⟩
  · have : z = 62 ∨ z = 63 := by omega
    rcases this with rfl | rfl
    · rw [sig_62 g]; exact key _ (told_letters _ g.w _ g.u) (told_small _ _ g.u)
    · rw [sig_63 g]; exact key _ (told_letters _ g.w _ g.v) (told_small _ _ g.v)
theorem flat_small {d : FoldD} (g : Good d) : ∀ {zs : List Int}, (∀ z ∈ zs, Fig z) → (zs.flatMap (sig d)).length ≤ 6 * zs.length
  | [], _ => Nat.le_refl _
  | z :: zs, h => by
    have h1 := (sig_small g (h z (.head _))).1
    have h2 := flat_small g fun z hz => h z (.tail _ hz)
    rw [List.flatMap_cons, List.length_append, List.length_cons]
    omega
theorem flat_figs {d : FoldD} (g : Good d) {zs : List Int} (h : ∀ z ∈ zs, Fig z) : ∀ y ∈ zs.flatMap (sig d), Fig y := fun y hy => by
  obtain ⟨z, hz, hy⟩ := List.mem_flatMap.mp hy
  exact (sig_small g (h z hz)).2 y hy
theorem rep_mem {zs : List Int} (h : ∀ z ∈ zs, Fig z) : ∀ z ∈ (List.replicate (Int.toNat 4) zs).flatten, Fig z := fun z hz => by
  obtain ⟨y, hy, hz⟩ := List.mem_flatten.mp hz
  rw [List.eq_of_mem_replicate hy] at hz
  exact h z hz
theorem run_ok : ∀ (ds : List FoldD) (zs : List Int), (∀ d ∈ ds, Good d) → (∀ z ∈ zs, Fig z) → zs.length * 6 ^ ds.length ≤ 15552 → RunOk (List.replicate (Int.toNat 4) zs).flatten ds
  | [], _, _, _, _ => trivial
  | d :: ds, zs, G, hf, hl => by
    have g := G d (.head _)
    have hu := told_ok _ _ g.u
    have hv := told_ok _ _ g.v
    have hlen : ∀ xs : List Int, (List.replicate (Int.toNat 4) xs).flatten.length = xs.length * 4 := fun xs => KM.len_rep xs 4
    have hfold : foldFigs (List.replicate (Int.toNat 4) zs).flatten d = (List.replicate (Int.toNat 4) (zs.flatMap (sig d))).flatten := by
      rw [fold_sig, rep_eq, rep_eq]
      simp only [List.flatMap_append, List.flatMap_nil]
    have h6 : 0 < 6 ^ ds.length := Nat.pow_pos (by decide)
    rw [List.length_cons, Nat.pow_succ, Nat.mul_comm (6 ^ ds.length) 6, ← Nat.mul_assoc] at hl
    have hz : zs.length * 6 ≤ 15552 := Nat.le_trans (Nat.le_mul_of_pos_right _ h6) hl
    have hs := flat_small g hf
    refine ⟨⟨Nat.le_trans hu.2.2.1 (by decide), Nat.le_trans hv.2.2.1 (by decide), ⟨by rw [hlen]; omega, rep_mem hf, by rw [hlen]; omega, ?_, hu.1, hv.1, hu.2.1, hv.2.1, ?_, ?_⟩⟩, ?_⟩
    · have : ((List.replicate (Int.toNat 4) zs).flatten.flatMap (sigma d.c0 d.c1 (escTab d.way) (foldY0 d.turned) (foldY1 d.turned))) = _ := hfold
      rw [this, hlen]; omega
    · unfold foldY0; split <;> decide
    · unfold foldY1; split <;> decide
    · rw [hfold]
      refine run_ok ds _ (fun d hd => G d (.tail _ hd)) (flat_figs g hf) (Nat.le_trans (Nat.mul_le_mul_right _ ?_) hl)
      omega
theorem strip_figs {p : Int} (hp : p = 62 ∨ p = 63) {ds : List FoldD} (G : ∀ d ∈ ds, Good d) : ∀ m, ∀ z ∈ stripAt p ds m, Fig z
  | 0, z, hz => by
    have := face_01 hp G ds.length
    rw [List.mem_singleton.mp hz]
    unfold Fig lastOf; omega
  | m + 1, z, hz => by
    rcases List.mem_append.mp (show z ∈ stripAt p ds m ++ letterFigs (creaseOf p ds (m + 1)) ++ [62 + ((m + 1 : Nat) + lastOf p ds) % 2] from hz) with hz | hz
    · rcases List.mem_append.mp hz with hz | hz
      · exact strip_figs hp G m z hz
      · have := crease_letters G p (m + 1) z hz
        unfold Fig; omega
    · rw [List.mem_singleton.mp hz]
      unfold Fig; omega
theorem due_figs {zs : List Int} {ds : List FoldD} (G : ∀ d ∈ ds, Good d) (h : ∀ z ∈ zs, 0 ≤ z ∧ z < 64) : ∀ z ∈ zs.flatMap (fun z => stripOf z ds), Fig z := fun y hy => by
  obtain ⟨z, hz, hy⟩ := List.mem_flatMap.mp hy
  have hr := h z hz
  unfold stripOf at hy
  split at hy
  · rw [List.mem_singleton.mp hy]; exact hr
  · exact strip_figs (by omega) G _ y hy
end
section
open PySem PySem.W PyProof.Rows PySem.Calls

set_option maxRecDepth 100000
set_option maxHeartbeats 8000000
noncomputable def numsOf (ns : List Int) : List Int := if ns = [] then [235, 779, 108] else (ns.take 5).map fun x => x.fmod 125440
inductive mid1 (h₀ : Heap) (L : Addr) (s : Shared) (xs : List Int) (s' : Shared) : Prop
  | mk (h' : Heap) (k : Nat) (m : Str → Option Value) (l : Addr) (vs : List Value) (n : Nat) (o : Obj) : s' = { s with heap := h', toks := k } → Fr h₀ L h' m → News h₀ L h' [(l, W.listOf vs.toArray n), (L + 1, o)] → o.data = .cell none → IntsAre vs xs → m (Str.ofString "numbers") = some (.ref l) → l ≠ L + 1 → mid1 h₀ L s xs s'
theorem nums_range {ns : List Int} : ∀ x ∈ numsOf ns, 0 ≤ x ∧ x < 125440 := by
  intro x hx
  unfold numsOf at hx
  split at hx
  · simp only [List.mem_cons, List.mem_nil_iff, or_false] at hx; omega
  · obtain ⟨y, _, rfl⟩ := List.mem_map.mp hx
    exact ⟨Int.fmod_nonneg_of_pos _ (by decide), Int.fmod_lt_of_pos _ (by decide)⟩
theorem nums_len {ns : List Int} : 0 < (numsOf ns).length ∧ (numsOf ns).length ≤ 5 := by
  unfold numsOf
  split
  · decide
  · rename_i h
    have : ns.length ≠ 0 := fun e => h (List.eq_nil_of_length_eq_zero e)
    rw [List.length_map, List.length_take]; omega
noncomputable def FoldObj (x : Int) (o : Obj) : Prop := ∃ (t1 t2 t3 t4 : Tok), o = tupObj [.int (foldOf x).way t1, .str (ofL ((foldOf x).c0 :: (foldOf x).us)) t2, .str (ofL ((foldOf x).c1 :: (foldOf x).ds)) t3, .int (foldOf x).turned t4]
inductive mid2 (h₀ : Heap) (L : Addr) (s : Shared) (xs : List Int) (s' : Shared) : Prop
  | mk (h' : Heap) (k : Nat) (m : Str → Option Value) (l f : Addr) (vs fs : List Value) (n nf : Nat) (o : Obj) (objs : List (Addr × Obj)) : s' = { s with heap := h', toks := k } → Fr h₀ L h' m → News h₀ L h' ((l, W.listOf vs.toArray n) :: (f, W.listOf fs.toArray nf) :: (L + 1, o) :: objs) → o.data = .cell (some (.ref f)) → IntsAre vs xs → Made FoldObj xs fs objs → m (Str.ofString "numbers") = some (.ref l) → mid2 h₀ L s xs s'
theorem news_back {h₀ h : Heap} {L : Addr} {a b c : Addr × Obj} {objs : List (Addr × Obj)} (N : News h₀ L h (a :: b :: (objs ++ [c]))) : News h₀ L h (c :: a :: b :: objs) := fun p hp => by
  rcases List.mem_cons.mp hp with rfl | hp
  · exact N _ (.tail _ (.tail _ (List.mem_append_right _ (.head _))))
  · rcases List.mem_cons.mp hp with rfl | hp
    · exact N _ (.head _)
    · rcases List.mem_cons.mp hp with rfl | hp
      · exact N _ (.tail _ (.head _))
      · exact N _ (.tail _ (.tail _ (List.mem_append_left _ hp)))
theorem ints_of {vs : List Value} {xs : List Int} (h : IntsAre vs xs) {i : Nat} {v : Value} (e : vs[i]? = some v) : ∃ x, xs[i]? = some x ∧ ∃ t, v = .int x t := by
  have hi : i < xs.length := by rw [← h.length]; exact (List.getElem?_eq_some_iff.mp e).1
  obtain ⟨t, e2⟩ := h.get i xs[i] (List.getElem?_eq_getElem hi)
  rw [e] at e2
  exact ⟨xs[i], List.getElem?_eq_getElem hi, t, Option.some.inj e2⟩
inductive mid3 (h₀ : Heap) (L : Addr) (s : Shared) (xs : List Int) (s' : Shared) : Prop
  | mk (h' : Heap) (k : Nat) (m : Str → Option Value) (p f : Addr) (ps fs : List Value) (np nf : Nat) (o : Obj) (objs : List (Addr × Obj)) : s' = { s with heap := h', toks := k } → Fr h₀ L h' m → News h₀ L h' ((p, W.listOf ps.toArray np) :: (f, W.listOf fs.toArray nf) :: (L + 1, o) :: objs) → o.data = .cell (some (.ref f)) → IntsAre ps ((xs.take 2).map pieceOf) → Made FoldObj xs fs objs → m (Str.ofString "pieces") = some (.ref p) → mid3 h₀ L s xs s'
theorem news_skip2 {h₀ h : Heap} {L : Addr} {a b c : Addr × Obj} {r : List (Addr × Obj)} (N : News h₀ L h (a :: b :: c :: r)) : News h₀ L h (a :: r) := fun p hp => by
  rcases List.mem_cons.mp hp with rfl | hp
  · exact N _ (.head _)
  · exact N _ (.tail _ (.tail _ (.tail _ hp)))
theorem pick_mem (x k : Int) : pick x k ∈ told (x.fmod 5) := by
  unfold pick
  have hl := told_len (x.fmod 5)
  generalize told (x.fmod 5) = l at *
  have h0 := Int.fmod_nonneg_of_pos (x.fdiv k) (b := (l.length : Int)) (by omega)
  have h1 := Int.fmod_lt_of_pos (x.fdiv k) (b := (l.length : Int)) (by omega)
  have hi : ((x.fdiv k).fmod (l.length : Int)).toNat < l.length := by omega
  rw [List.getD_eq_getElem?_getD, List.getElem?_eq_getElem hi]
  exact List.getElem_mem hi
theorem good_of (x : Int) : Good (foldOf x) := by
  have h0 := Int.fmod_nonneg_of_pos x (b := 5) (by decide)
  have h1 := Int.fmod_lt_of_pos x (b := 5) (by decide)
  have h2 := Int.fmod_nonneg_of_pos (x.fdiv 245) (b := 2) (by decide)
  have h3 := Int.fmod_lt_of_pos (x.fdiv 245) (b := 2) (by decide)
  refine ⟨?_, ?_, pick_mem x 5, pick_mem x 35⟩
  · show x.fmod 5 ∈ _
    have : x.fmod 5 = 0 ∨ x.fmod 5 = 1 ∨ x.fmod 5 = 2 ∨ x.fmod 5 = 3 ∨ x.fmod 5 = 4 := by omega
    rcases this with e | e | e | e | e <;> rw [e] <;> simp
  · show (x.fdiv 245).fmod 2 ∈ _
    have : (x.fdiv 245).fmod 2 = 0 ∨ (x.fdiv 245).fmod 2 = 1 := by omega
    rcases this with e | e <;> rw [e] <;> simp
theorem all_good (xs : List Int) : ∀ d ∈ xs.map foldOf, Good d := fun d hd => by
  obtain ⟨x, _, rfl⟩ := List.mem_map.mp hd
  exact good_of x
theorem size_ok {a n : Nat} (ha : a ≤ 2) (hn : n ≤ 5) : a * 6 ^ n ≤ 15552 := Nat.le_trans (Nat.mul_le_mul ha (Nat.pow_le_pow_right (by decide) hn)) (by decide)
theorem folds_ok {xs : List Int} (hl : 0 < xs.length ∧ xs.length ≤ 5) (_hr : ∀ x ∈ xs, 0 ≤ x ∧ x < 125440) : FoldsOk (xs.map foldOf) := by
  refine ⟨by rw [List.length_map]; exact hl.1, by rw [List.length_map]; exact hl.2, fun d hd => ?_⟩
  obtain ⟨x, _, rfl⟩ := List.mem_map.mp hd
  have h5 := told_ok _ _ (pick_mem x 5)
  have h35 := told_ok _ _ (pick_mem x 35)
  have h0 := Int.fmod_nonneg_of_pos (x.fdiv 245) (b := 2) (by decide)
  have h1 := Int.fmod_lt_of_pos (x.fdiv 245) (b := 2) (by decide)
  exact ⟨by show (x.fdiv 245).fmod 2 = 0 ∨ (x.fdiv 245).fmod 2 = 1; omega, h5.2.2.1, h35.2.2.1, h5.2.2.2, h35.2.2.2⟩
theorem piece_range {x : Int} (h : 0 ≤ x ∧ x < 125440) : 0 ≤ pieceOf x ∧ pieceOf x < 64 := by
  unfold pieceOf
  rw [Int.fdiv_eq_ediv_of_nonneg _ (by decide), Int.fmod_eq_emod_of_nonneg _ (by decide), Int.fdiv_eq_ediv_of_nonneg _ (by decide)]
  split <;> omega
theorem folds_are {xs : List Int} {fs : List Value} {objs : List (Addr × Obj)} {h : Heap} (M : Made FoldObj xs fs objs) (N : ∀ p ∈ objs, h.get? p.1 = some p.2) : FoldsAre h fs (xs.map foldOf) := by
  refine ⟨by rw [M.1, List.length_map], fun i v d hv hd => ?_⟩
  rw [List.getElem?_map] at hd
  cases e : xs[i]? with
  | none => rw [e] at hd; cases hd
  | some x =>
    rw [e] at hd
    cases hd
    obtain ⟨a, o, e1, hm, t1, t2, t3, t4, rfl⟩ := M.2 i x e
    rw [hv] at e1
    cases e1
    exact ⟨a, t1, t2, t3, t4, rfl, _, N _ hm, rfl, _, rfl⟩
theorem strip_most {p : Int} {ds : List FoldD} (O : FoldsOk ds) : (stripOf p ds).length ≤ 200 := by
  unfold stripOf
  split
  · show 1 ≤ 200; omega
  · have h1 := strip_len (pc := p) O.each (2 ^ ds.length - 1)
    have h2 : 2 ^ ds.length ≤ 2 ^ 5 := Nat.pow_le_pow_right (by decide) O.most
    omega
theorem ints_flat {f : Int → List Int} : ∀ {zs : List Int} {yss : List (List Value)}, yss.length = zs.length → (∀ (i : Nat) ys z, yss[i]? = some ys → zs[i]? = some z → IntsAre ys (f z)) → IntsAre (List.flatten yss) (zs.flatMap f)
  | [], [], _, _ => .nil
  | [], _ :: _, h, _ => by simp at h
  | _ :: _, [], h, _ => by simp at h
  | z :: zs, ys :: yss, h, H => by
    rw [List.flatten_cons, List.flatMap_cons]
    exact (H 0 ys z rfl rfl).append (ints_flat (by simpa using h) fun i ys' z' h1 h2 => H (i + 1) ys' z' h1 h2)
inductive mid4 (h₀ : Heap) (L : Addr) (s : Shared) (xs : List Int) (s' : Shared) : Prop
  | mk (h' : Heap) (k : Nat) (m : Str → Option Value) (d p f : Addr) (dvs ps fs : List Value) (nd np nf : Nat) (o : Obj) (objs : List (Addr × Obj)) : s' = { s with heap := h', toks := k } → Fr h₀ L h' m → News h₀ L h' ((d, W.listOf dvs.toArray nd) :: (p, W.listOf ps.toArray np) :: (f, W.listOf fs.toArray nf) :: (L + 1, o) :: objs) → o.data = .cell (some (.ref f)) → IntsAre ps ((xs.take 2).map pieceOf) → IntsAre dvs (((xs.take 2).map pieceOf).flatMap fun z => stripOf z (xs.map foldOf)) → Made FoldObj xs fs objs → m (Str.ofString "pieces") = some (.ref p) → m (Str.ofString "due") = some (.ref d) → mid4 h₀ L s xs s'
theorem news_tail5 {h₀ h : Heap} {L : Addr} {a b c d e : Addr × Obj} {r : List (Addr × Obj)} (N : News h₀ L h (a :: b :: c :: d :: e :: r)) : ∀ p ∈ r, h.get? p.1 = some p.2 := fun p hp => (N p (.tail _ (.tail _ (.tail _ (.tail _ (.tail _ hp)))))).1
theorem rep_four (zs : List Int) : (List.replicate (Int.toNat 4) zs).flatten.length % 4 = 0 := by
  show (List.replicate 4 zs).flatten.length % 4 = 0
  rw [KM.len_rep]; omega
theorem rep_figs {zs : List Int} (h : ∀ z ∈ zs, Fig z) : ∀ z ∈ (List.replicate (Int.toNat 4) zs).flatten, Fig z := fun z hz => by
  obtain ⟨y, hy, hz⟩ := List.mem_flatten.mp hz
  rw [List.eq_of_mem_replicate hy] at hz
  exact h z hz
theorem rep_len {zs : List Int} (h : zs.length ≤ 2) : (List.replicate (Int.toNat 4) zs).flatten.length ≤ 200000 := by
  show (List.replicate 4 zs).flatten.length ≤ 200000
  rw [KM.len_rep]; omega
inductive mid5 (h₀ : Heap) (L : Addr) (s : Shared) (xs : List Int) (s' : Shared) : Prop
  | mk (h' : Heap) (k : Nat) (m : Str → Option Value) (d : Addr) (dvs : List Value) (nd : Nat) (t : Tok) : s' = { s with heap := h', toks := k } → Fr h₀ L h' m → News h₀ L h' [(d, W.listOf dvs.toArray nd)] → IntsAre dvs (((xs.take 2).map pieceOf).flatMap fun z => stripOf z (xs.map foldOf)) → m (Str.ofString "due") = some (.ref d) → m (Str.ofString "told") = some (.bytes (byteArr (octL (runFigs (List.replicate (Int.toNat 4) ((xs.take 2).map pieceOf)).flatten (xs.map foldOf)))) t) → mid5 h₀ L s xs s'
theorem rep_len' {zs : List Int} (h : zs.length ≤ 400) : (List.replicate (Int.toNat 4) zs).flatten.length ≤ 200000 := by
  show (List.replicate 4 zs).flatten.length ≤ 200000
  rw [KM.len_rep]; omega
theorem due_len {zs : List Int} {f : Int → List Int} (h : zs.length ≤ 2) (hf : ∀ z, (f z).length ≤ 200) : (zs.flatMap f).length ≤ 400 := by
  match zs, h with
  | [], _ => exact Nat.zero_le _
  | [a], _ => have := hf a; simp only [List.flatMap_cons, List.flatMap_nil, List.length_append, List.length_nil]; omega
  | [a, b], _ => have := hf a; have := hf b; simp only [List.flatMap_cons, List.flatMap_nil, List.length_append, List.length_nil]; omega
theorem off1_mem {D : Addr} : ∀ {l : List (Addr × Obj)}, LCg.Off1 D l → ∀ p ∈ l, p.1 ≠ D
  | [], _, _, h => nomatch h
  | _ :: _, x, p, h => by
    rcases List.mem_cons.mp h with rfl | h
    · exact x.1
    · exact off1_mem x.2 p h
theorem law_hc : Walk := by
  w_top off
  k_with_none
  k_with "m enter" => (
  (case ho => k_is)
  (case hcd => k_is)
  (case bind => intro s X; first | exact BindsTo.of_eq rfl | exact binds_K (by k_in) rfl (by k_is) rfl rfl rfl)
  (case loc => exact locs rfl)
  (case pos => decide)
  (case c1 => exact rfl)
  (case c2 => exact rfl)
  (case c3 => exact rfl)
  (case c4 => decide))
  k_with "m end" => refine ⟨_, _, rfl, Fr.keep (by assumption), ?_⟩
  k_with "m used" => (
  (case kB => k_asm)
  (case kF => k_asm)
  (case kN => k_asm)
  (case kX => k_asm)
  (case kT => k_asm)
  (case kK => exact rfl)
  (case kR => ktr_room)
  (case kU => ktr_units))
  k_with "call type:type" => ((with_reducible show wpAny _ _ (call (Value.type "type") [Value.bytes _ _]) _ _ _); refine call_type_of (typeIs_bytes _ _ _) (by decide) ?_)
  k_with "call builtin:str.encode" => (refine call_encode ?ha ?hs ?_; (case ha => assumption); (case hs => (first | assumption | omega | decide)))
  k_with "getMethod bytes" => (refine method_translate ?_)
  k_with "getMethod str" => ((with_reducible show wpAny _ _ (getMethod _ (Str.ofString "encode") _) _ _ _); refine method_encode ?_)
  k_with "getMethod type:bytes" => (refine' method_type (T := "bytes") (v := Value.builtin "bytes.maketrans") ?F ?X ty_bytes stub_bytes ?e ?h ?_; (case F => k_asm); (case X => k_asm); (case e => k_dflt k_is); (case h => exact rfl))
  k_with "call builtin:bytes.maketrans" => (refine call_maketrans ?a ?_; (case a => first | rfl | assumption | (simp; done)))
  k_with "call builtin:bytes.translate" => (refine call_translate (tableOf_size _ _) ?a ?_; (case a => first | assumption | omega); intro t9 k9)
  k_with "m for" => (with_unfolding_all (refine' For_invVF ?kF ?k1 ?k2 ?_ ?hs ?hE; (case kF => assumption); (case k1 => exact rfl); (case k2 => exact rfl); (case hs => intro _; rfl); (case hE => passes_own)))
  k_with "m name" => (k_dflt (refine' ld ?k1 ?k2 ?_; (case k1 => k_asm); (case k2 => exact rfl); k_whole))
  k_with "subscriptTail" => ((with_reducible show wpAny _ _ (subscriptTail _ _ (Value.bytes _ _) (Value.int (Builtin.bitAnd _ 63) _)) _ _ _); (with_unfolding_all refine b64_item ?_))
  k_with "storeName" => ((with_reducible show wpAny _ _ (storeName _ _ (Value.int _ _)) _ _ _); (try dsimp only); k_dflt (refine' store_int ?F ?N ?_ ?a ?b; (case F => k_asm); (case N => k_asm); (case a => rfl); (case b => rfl); k_whole; intro t9 k9 h' F' N'; (try k_sweep)))
  k_with "m enterC" => (
  (case ho => k_is)
  (case hcd => k_is)
  (case bind => intro s X; first | exact BindsTo.of_eq rfl | exact binds_K (by k_in) rfl (by k_is) rfl rfl rfl)
  (case loc => exact rfl)
  (case nd => decide +kernel)
  (case pos => decide)
  (case c1 => exact rfl)
  (case c2 => exact rfl)
  (case c3 => exact rfl))
  k_with "eval ListComp" => (k_dflt (refine LCg.ListComp_U (by k_asm) (by with_unfolding_all rfl) (by decide) (by rfl) (by decide) (by rfl) ?_))
  k_with "call ref" => (fail)
  k_with "exec Assign cons ListComp" => (k_dflt (refine LCg.Assign_ListComp_U (F₀ := by k_asm) (by rfl) (by with_unfolding_all rfl) (by with_unfolding_all rfl) (by decide) (by rfl) (by decide) (by rfl) (by rfl) (by rfl) ?_))
  k_with "call ref" => ((with_reducible show wpAny _ _ (call (Value.ref 184) _ _) _ _ _); k_dflt ((try dsimp only); refine' Does.use (octets_does (by assumption) r1 r2 r3) ?kB ?kF ?kN ?kX ?kT ?kK ?kR ?kU ?pre ?_; (walk_at "m used"); (case pre => exact News.isList (by assumption) (.head _)); intro v9 h9 tk9 st9 F9 N9 hp9; (obtain ⟨t9, hp9⟩ := hp9); subst hp9; (try k_sweep)))
  intro d kwd hdef
  rw [show defOf view (Str.ofString "law") = some _ from rfl] at hdef
  cases hdef
  unfold H0
  w_on
  w_strict (k_go0; (all_goals try k_fold))
  rename_i w s₀ s₁ mg mb G Y fa o pm doc ho hg KX X V GL T B TE TW w1 w2 M w3 w4 hcd ns hs hlay0 hLy hr hl2 w5 w6 la vs w7 hL ra wl r0 hI hrr hcond hc2 K0 hDf h₁ tk₁ F oc hoc Nc Yc
  clear Y G X V GL B TE TW M hcd hr hs hlay0 hLy hl2 r0 hrr ra wl hDf Yc hc2
  have F1 : Fr s₁.heap s₁.heap.objs.size h₁ (fun y => if y = Str.ofString "script" then some (.ref la) else none) := F
  have hoc1 : oc.data = .cell none := hoc
  clear F hoc
  dsimp only
  generalize hLe : s₁.heap.objs.size = L at *
  with_reducible refine execs_cut 1 (mid1 s₁.heap L s₁ (numsOf ns)) ?_ ?_
  · dsimp only [List.take]
    k_steps
    · (with_reducible rename Fr _ _ _ _ => F8)
      (with_reducible rename News _ _ _ _ => N8)
      have hn : ns = [] := of_decide_eq_true (by assumption)
      exact ⟨_, _, _, _, [_, _, _], 0, oc, rfl, F8, news_13 N8, hoc1, by unfold numsOf; rw [if_pos hn]; exact .cons _ _ (.cons _ _ (.cons _ _ .nil)), rfl, by show @Ne Nat _ _; omega⟩
    · (with_reducible rename Fr _ _ _ _ => F8)
      (with_reducible rename News _ _ _ _ => N8)
      have hn : ¬ ns = [] := of_decide_eq_false (by assumption)
      exact ⟨_, _, _, _, ys, _, oc, rfl, F8, news_14 N8, hoc1, by unfold numsOf; rw [if_neg hn]; assumption, rfl, by show @Ne Nat _ _; omega⟩
  · rintro s' ⟨h2, k2, m2, l2, vs2, n2, o2, rfl, F₁, N₁, ho2, hi2, e1, hne2⟩
    clear F1 Nc hoc1 hI hL hcond
    have F₂ := Fr.at "numbers" (.ref l2) F₁ e1
    clear F₁
    dsimp only [List.drop]
    with_reducible refine execs_cut 1 (mid2 s₁.heap L s₁ (numsOf ns)) ?_ ?_
    · dsimp only [List.take]
      k_steps
      have hnl := nums_len (ns := ns)
      have hsz : vs2.toArray.size ≤ sizeLine := by rw [List.size_toArray, hi2.length, sizeLine_eq]; omega
      refine LCg.CompSrc.ledger rfl F₂ N₁ (.head _) hsz fun g => rest_inv (n := vs2.toArray.size) (MadeJ FoldObj (numsOf ns) [(l2, W.listOf vs2.toArray n2), (L + 1, o2)]) ?_ ?_ _ 0 [] _ (Nat.zero_add _) MadeJ.zero
      · rintro i ys news hi hJ v I oI C oC D m₂ h tk E' hP ho hm F₁ N₁ off ne
        have hv : vs2[i]? = some v := by simpa using hP
        obtain ⟨x, hx⟩ : ∃ x, (numsOf ns)[i]? = some x := ⟨_, List.getElem?_eq_getElem (by rw [← hi2.length]; exact (List.getElem?_eq_some_iff.mp hv).1)⟩
        obtain ⟨t9, e9⟩ := hi2.get i x hx
        rw [hv] at e9
        obtain rfl := Option.some.inj e9
        obtain ⟨hx0, hx1⟩ := nums_range x (List.mem_of_getElem? hx)
        clear F₂
        walk1
        walk1
        walk1
        walk1
        walk1
        walk1
        walk1
        walk1
        try dsimp only
        refine' Does.use (fold_does (by assumption) (by assumption)) ?kB ?kF ?kN ?kX ?kT ?kK ?kR ?kU trivial ?_
        (walk_at "m used")
        intro v9 h9 tk9 st9 F9 N9 hp9
        obtain ⟨d9, t1, t2, t3, t4, rfl, hd0, hd1⟩ := hp9
        exact made_end hJ hx F₁ N₁ off F9 N9 hd0 hd1 ⟨_, _, _, _, rfl⟩ fun nw hb => .inr ⟨_, hb _ (.head _), rfl, _, rfl⟩
      · rintro ys news ⟨objs, rfl, hm, hoff⟩ D h tk F₁ N₁ off
        rw [List.take_of_length_le (by rw [List.size_toArray, hi2.length]; exact Nat.le_refl _)] at hm
        clear F₂
        have N₂ : News s₁.heap L h ((D, LCg.lst ys) :: (L + 1, o2) :: (objs ++ [(l2, W.listOf vs2.toArray n2)])) := fun p hp => by
          rcases List.mem_cons.mp hp with rfl | hp
          · exact N₁ _ (.head _)
          · rcases List.mem_cons.mp hp with rfl | hp
            · exact N₁ _ (.tail _ (List.mem_append_right _ (.tail _ (.head _))))
            · rcases List.mem_append.mp hp with hp | hp
              · exact N₁ _ (.tail _ (List.mem_append_left _ hp))
              · rw [List.mem_singleton.mp hp]; exact N₁ _ (.tail _ (List.mem_append_right _ (.head _)))
        have hoD : D ≠ L + 1 := fun q => (off1_mem off) _ (List.mem_append_right _ (.tail _ (.head _))) q.symm
        have hoR : ∀ p ∈ objs ++ [(l2, W.listOf vs2.toArray n2)], p.1 ≠ L + 1 := fun p hp => by
          rcases List.mem_append.mp hp with hp | hp
          · exact hoff p hp _ (.tail _ (.head _))
          · rw [List.mem_singleton.mp hp]; exact hne2
        dsimp only
        refine store_cell F₁ N₂ hoD hoR ho2 fun h5 o5 F₅ N₅ ho5 => ?_
        k_steps
        exact ⟨_, _, _, l2, D, vs2, ys, n2, _, o5, objs, rfl, F₅, news_back N₅, ho5, hi2, hm, rfl⟩
    · rintro s' ⟨h3, k3, m3, l3, f3, vs3, fs3, n3, nf3, o3, objs, rfl, F₁, N₁, ho3, hi3, hm3, e1⟩
      have F₂' := Fr.at "numbers" (.ref l3) F₁ e1
      clear F₁ F₂ hi2
      have hxl := nums_len (ns := ns)
      have hxr := nums_range (ns := ns)
      have hi3' := hi3
      dsimp only [List.drop]
      generalize hxs : numsOf ns = xs at hxl hxr hi3 hm3
      clear hi3'
      have hvl := hi3.length
      with_reducible refine execs_cut 1 (mid3 s₁.heap L s₁ xs) ?_ ?_
      · dsimp only [List.take]
        k_steps
        (with_reducible rename Fr _ _ _ _ => F8)
        (with_reducible rename News _ _ _ _ => N8)
        (with_reducible rename IntsAre _ (List.take 2 xs) => hI8)
        refine LCg.CompSrc.ledger rfl F8 N8 (.head _) (by rw [List.size_toArray, hI8.length, sizeLine_eq, List.length_take]; omega) fun g => rest_inv (IntsJ ((xs.take 2).map pieceOf) _) ?_ ?_ _ 0 [] _ (Nat.zero_add _) IntsJ.zero
        · rintro i ys news hi hJ v I oI C oC D m₂ h tk E' hP ho hm F₁ N₁ off ne
          obtain ⟨x, hx, t9, rfl⟩ : ∃ x, (xs.take 2)[i]? = some x ∧ ∃ t, v = .int x t := ints_of hI8 (by simpa using hP)
          obtain ⟨hx0, hx1⟩ := hxr x (List.mem_of_mem_take (List.mem_of_getElem? hx))
          walk1
          walk1
          walk1
          walk1
          walk1
          walk1
          walk1
          walk1
          try dsimp only
          refine' Does.use (piece_does (by assumption) (by assumption)) ?kB ?kF ?kN ?kX ?kT ?kK ?kR ?kU trivial ?_
          (walk_at "m used")
          intro v9 h9 tk9 st9 F9 N9 hp9
          obtain ⟨t8, rfl⟩ := hp9
          exact ints_end hJ (by rw [List.getElem?_map, hx]; rfl) off F9 N9 (.inr ⟨_, .head _, rfl, _, rfl⟩)
        · rintro ys news ⟨rfl, hys⟩ D h tk F₁ N₁ off
          rw [List.take_of_length_le (by rw [List.length_map, List.size_toArray, hI8.length]; exact Nat.le_refl _)] at hys
          clear F8 N8
          dsimp only
          k_steps
          exact ⟨_, _, _, D, f3, ys, fs3, _, nf3, o3, objs, rfl, F₁, news_skip2 N₁, ho3, hys, hm3, rfl⟩
      · rintro s' ⟨h4, k4, m4, p4, f4, ps4, fs4, np4, nf4, o4, objs4, rfl, F₁, N₁, ho4, hi4, hm4, e1⟩
        have F₄ := Fr.at "pieces" (.ref p4) F₁ e1
        clear F₁ F₂'
        dsimp only [List.drop]
        with_reducible refine execs_cut 1 (mid4 s₁.heap L s₁ xs) ?_ ?_
        · dsimp only [List.take]
          walk1
          refine Assign_flat F₄ (by with_unfolding_all rfl) (by with_unfolding_all rfl) (by decide) (by rfl) (by decide) (by rfl) (by rfl) (by decide) (by rfl) (by rfl) ?_
          walk1
          have hpl := hi4.length
          rw [List.length_map, List.length_take] at hpl
          have O := folds_ok hxl hxr
          refine ⟨p4, ps4, _, fun i ys => IntsAre ys (stripOf ((((xs.take 2).map pieceOf))[i]?.getD 0) (xs.map foldOf)), 200, rfl, rfl, F₄, N₁, News.isList N₁ (.head _), by rw [sizeLine_eq]; omega, ?_, ?_⟩
          · rintro s₂ ⟨g, rfl⟩ i v I oI C oC D m₂ acc h tk E' hv ho hm F₁ N₁ off ne
            obtain ⟨x, hx, t9, rfl⟩ := ints_of hi4 hv
            obtain ⟨hx0, hx1⟩ : 0 ≤ x ∧ x < 64 := by
              obtain ⟨y, hy, rfl⟩ := List.mem_map.mp (List.mem_of_getElem? hx)
              exact piece_range (hxr y (List.mem_of_mem_take hy))
            clear F₄
            walk1
            walk1
            walk1
            walk1
            walk1
            walk1
            walk1
            walk1
            walk1
            walk1
            try dsimp only
            refine' Does.use (strip_does hx0 hx1 O) ?kB ?kF ?kN ?kX ?kT ?kK ?kR ?kU ?pre ?_
            (walk_at "m used")
            (case pre => exact ⟨News.isList N₁ (.tail _ (.tail _ (.tail _ (.tail _ (.head _))))), folds_are hm4 fun p hp => (N₁ p (.tail _ (.tail _ (.tail _ (.tail _ (.tail _ (.tail _ hp))))))).1⟩)
            intro v9 h9 tk9 st9 F9 N9 hp9
            obtain ⟨d9, ys9, n9, rfl, hd0, hd1, hy9⟩ := hp9
            refine ⟨h9, tk9, d9, ys9, rfl, rfl, st9, (fun q => by rw [q, (N₁ _ (.tail _ (.head _))).1] at hd0; cases hd0), (fun q => by rw [q, (N₁ _ (.tail _ (.tail _ (.head _)))).1] at hd0; cases hd0), ⟨_, hd1, rfl, _, rfl⟩, by show IntsAre ys9 (stripOf (((xs.take 2).map pieceOf)[i]?.getD 0) (xs.map foldOf)); rw [hx]; exact hy9, ?_⟩
            rw [hy9.length]
            exact strip_most O
          · rintro s₂ ⟨g, rfl⟩ yss hyl hG D h tk F₁ N₁ off
            have hd := ints_flat (zs := (xs.take 2).map pieceOf) (f := fun z => stripOf z (xs.map foldOf)) (by rw [hyl, hi4.length]) fun i ys z hi hz => by
              have h9 : IntsAre ys (stripOf (((xs.take 2).map pieceOf)[i]?.getD 0) (xs.map foldOf)) := (hG i ys hi).1
              rw [hz] at h9
              exact h9
            clear F₄
            dsimp only
            k_steps
            exact ⟨_, _, _, D, p4, f4, _, ps4, fs4, _, np4, nf4, o4, objs4, rfl, F₁, N₁, ho4, hi4, hd, hm4, rfl, rfl⟩
        · rintro s' ⟨h5, k5, m5, d5, p5, f5, dvs5, ps5, fs5, nd5, np5, nf5, o5, objs5, rfl, F₁, N₁, ho5, hi5, hd5, hm5, e1, e2⟩
          have F₅ := Fr.at "due" (.ref d5) (Fr.at "pieces" (.ref p5) F₁ e1) e2
          clear F₁ F₄ hi3 hm3 hvl
          dsimp only [List.drop]
          with_reducible refine execs_cut 1 (mid5 s₁.heap L s₁ xs) ?_ ?_
          · dsimp only [List.take]
            have hpl : ((xs.take 2).map pieceOf).length ≤ 2 := by rw [List.length_map, List.length_take]; omega
            have hpf : ∀ z ∈ (xs.take 2).map pieceOf, Fig z := fun z hz => by
              obtain ⟨y, hy, rfl⟩ := List.mem_map.mp hz
              exact piece_range (hxr y (List.mem_of_mem_take hy))
            generalize hpc : (xs.take 2).map pieceOf = pcs at *
            have hpl2 := hi5.length
            have r1 := rep_four pcs
            have r2 := rep_figs hpf
            have r3 := rep_len hpl
            have r4 : RunOk (List.replicate (Int.toNat 4) pcs).flatten (xs.map foldOf) := run_ok _ _ (all_good xs) hpf (size_ok hpl (by rw [List.length_map]; exact hxl.2))
            walk1
            walk1
            walk1
            walk1
            walk1
            walk1
            walk1
            walk1
            walk1
            walk1
            walk1
            walk1
            walk1
            walk1
            walk1
            walk1
            try dsimp only
            refine' Does.use (octets_does (by assumption) r1 r2 r3) ?kB ?kF ?kN ?kX ?kT ?kK ?kR ?kU ?pre ?_
            (walk_at "m used")
            (case pre => exact News.isList (by assumption) (.head _))
            intro v9 h9 tk9 st9 F9 N9 hp9
            obtain ⟨t9, rfl⟩ := hp9
            (with_reducible rename Fr _ _ _ _ => F8)
            dsimp only
            walk1
            walk1
            walk1
            walk1
            try dsimp only
            refine' Does.use (run_does r4) ?kB ?kF ?kN ?kX ?kT ?kK ?kR ?kU ?pre ?_
            (walk_at "m used")
            (case pre => exact ⟨News.isList N9 (.tail _ (.tail _ (.tail _ (.head _)))), folds_are hm5 (news_tail5 N9)⟩)
            intro v10 h10 tk10 st10 F10 N10 hp10
            obtain ⟨t10, rfl⟩ := hp10
            dsimp only
            clear N9
            k_steps
            (with_reducible rename Fr _ _ _ _ => F8)
            (with_reducible rename News _ _ _ _ => N8)
            exact ⟨_, _, _, d5, dvs5, nd5, _, rfl, F8, fun p hp => by rw [List.mem_singleton.mp hp]; exact N8 _ (.tail _ (.head _)), by rw [hpc]; exact hd5, rfl, by rw [hpc]; rfl⟩
          · rintro s' ⟨h6, k6, m6, d6, dvs6, nd6, t6, rfl, F₁, N₁, hd6, e1, e2⟩
            have F₆ := Fr.at "told" (.bytes _ t6) (Fr.at "due" (.ref d6) F₁ e1) e2
            clear F₁ F₅
            have hpl : ((xs.take 2).map pieceOf).length ≤ 2 := by rw [List.length_map, List.length_take]; omega
            have O := folds_ok hxl hxr
            have hdl := due_len hpl (fun z => strip_most (p := z) O)
            have hdz : ∀ z ∈ (xs.take 2).map pieceOf, 0 ≤ z ∧ z < 64 := fun z hz => by
              obtain ⟨y, hy, rfl⟩ := List.mem_map.mp hz
              exact piece_range (hxr y (List.mem_of_mem_take hy))
            have hdf := due_figs (all_good xs) hdz
            have heq : runFigs (List.replicate (Int.toNat 4) ((xs.take 2).map pieceOf)).flatten (xs.map foldOf) = (List.replicate (Int.toNat 4) (((xs.take 2).map pieceOf).flatMap fun z => stripOf z (xs.map foldOf))).flatten := run_due (by rw [List.length_map]; exact hxl.2) (all_good xs) hdz
            rw [heq] at F₆
            clear heq
            generalize (((xs.take 2).map pieceOf).flatMap fun z => stripOf z (xs.map foldOf)) = due at *
            have r1 := rep_four due
            have r2 := rep_figs hdf
            have r3 := rep_len' hdl
            have hdl2 := hd6.length
            dsimp only [List.drop]
            k_steps
end
section
open PySem PySem.W PyProof.Rows
set_option maxRecDepth 100000
def stAt (n : Nat) : Stmt := match PySem.Challenge.pw_pa0043_02.main.body.drop n with
  | x :: _ => x
  | [] => .Pass default
def P0 : Program := { PySem.Challenge.pw_pa0043_02 with main := { PySem.Challenge.pw_pa0043_02.main with body := [stAt 0, stAt 1, stAt 2, stAt 3, stAt 4, stAt 5, stAt 6, stAt 7, stAt 8, stAt 9, stAt 10, stAt 11, stAt 12, stAt 13, stAt 14, stAt 15, stAt 16, stAt 17, stAt 18, stAt 19, stAt 20, stAt 21, stAt 22, stAt 23, stAt 24, stAt 25, stAt 26, stAt 27, stAt 28, stAt 29, stAt 30, stAt 31, stAt 32] } }
abbrev row0 : OpenRow := { PySem.Challenge.rw_pa0043_02.row with prog := P0 }
theorem row_eq : PySem.Challenge.rw_pa0043_02.row = row0 := by kernel_rfl
noncomputable def bearing {p : Prop} {α : Type} (_ : p) (x : α) : α := x
theorem three : (Str.ofString "law").cps.size = 3 := by kernel_rfl
noncomputable def K2 : Params → Frag := by
  refine bearing (p := (Str.ofString "law").cps.size = 3) three ?_
  refine (?f : (x : Params → Frag) → x = H0.heap_1 → Params → Frag) ?a ?b
  case f => exact fun x _ => x
  case b => delta H0.heap_1; rfl
theorem K2_places : ∀ P, ([2, 3, 15, 17, 18, 20, 21, 22, 23, 25, 26, 28, 29, 30, 37, 38, 39, 40, 43, 45, 46, 48, 49, 50, 52, 53, 55, 56, 57, 59, 60, 62, 63, 64, 66, 67, 69, 70, 71, 72, 74, 75, 77, 78, 79, 80, 82, 83, 85, 86, 87, 88, 90, 91, 93, 94, 95, 96, 98, 99, 101, 102, 103, 105, 106, 108, 109, 110, 112, 113, 115, 116, 117, 119, 120, 122, 123, 124, 126, 127, 129, 130, 131, 133, 134, 136, 137, 138, 140, 141, 143, 144, 145, 147, 148, 150, 151, 152, 154, 155, 157, 158, 159, 161, 162, 164, 165, 166, 169, 170, 171, 173, 174, 176, 177, 178, 180, 181, 183, 184, 185, 188, 189, 190, 193, 194, 195, 198, 199] : List Addr) = (K2 P).map (·.1) := fun _ => by kernel_rfl
noncomputable def H2 : Hook := kHook K2 [2, 3, 15, 17, 18, 20, 21, 22, 23, 25, 26, 28, 29, 30, 37, 38, 39, 40, 43, 45, 46, 48, 49, 50, 52, 53, 55, 56, 57, 59, 60, 62, 63, 64, 66, 67, 69, 70, 71, 72, 74, 75, 77, 78, 79, 80, 82, 83, 85, 86, 87, 88, 90, 91, 93, 94, 95, 96, 98, 99, 101, 102, 103, 105, 106, 108, 109, 110, 112, 113, 115, 116, 117, 119, 120, 122, 123, 124, 126, 127, 129, 130, 131, 133, 134, 136, 137, 138, 140, 141, 143, 144, 145, 147, 148, 150, 151, 152, 154, 155, 157, 158, 159, 161, 162, 164, 165, 166, 169, 170, 171, 173, 174, 176, 177, 178, 180, 181, 183, 184, 185, 188, 189, 190, 193, 194, 195, 198, 199] K2_places
theorem H2_eq : H2 = H0 := by kernel_rfl
set_option maxHeartbeats 8000000 in
theorem hdx : PySem.Challenge.rw_pa0043_02.Holds := by
  w_on
  o_law
  rename_i hs
  rw [row_eq] at hs ⊢
  o_head H2
  case hw => w_witness2
  case hc =>
    rw [H2_eq]
    exact law_hc _ _ rfl
end
end Mine
theorem PySem.Challenge.cw_pa0043_02_holds : PySem.Challenge.rw_pa0043_02.Holds := by
  exact Mine.hdx
