import PyProof.Rows.All
import Wide.All
import OpenK.AllK
import Wide.FinOn
import PySem.Challenge.RW_ep5034_01
set_option Elab.async false
section
open PySem PySem.W PyProof.Rows
namespace Mine
set_option maxRecDepth 100000 in
set_option maxHeartbeats 8000000 in
open_top hd for PySem.Challenge.rw_ep5034_01
end Mine
end
section
open PySem PySem.W PyProof.Rows PySem.Spec PySem.Calls
namespace Mine
open PySem.Builtin PySem.Builtin._codecs

/-- octets that are the UTF-8 of these signs (the signs that this law lays) -/
inductive U8 : List UInt8 → List Nat → Prop
  | nil : U8 [] []
  | one {c : UInt8} {r : List UInt8} {ds : List Nat} : c.toNat < 128 → U8 r ds → U8 (c :: r) (c.toNat :: ds)
  | two {r : List UInt8} {ds : List Nat} : U8 r ds → U8 (195 :: 169 :: r) (233 :: ds)
  | three {r : List UInt8} {ds : List Nat} : U8 r ds → U8 (226 :: 130 :: 172 :: r) (8364 :: ds)
  | four {r : List UInt8} {ds : List Nat} : U8 r ds → U8 (240 :: 159 :: 152 :: 128 :: r) (128512 :: ds)
theorem U8.len {bs : List UInt8} {ds : List Nat} (h : U8 bs ds) : ds.length ≤ bs.length := by
  induction h with
  | nil => exact Nat.le_refl _
  | one _ _ ih => simp only [List.length_cons]; omega
  | two _ ih => simp only [List.length_cons]; omega
  | three _ ih => simp only [List.length_cons]; omega
  | four _ ih => simp only [List.length_cons]; omega

theorem drop_get {b : Array UInt8} {p : Nat} {c : UInt8} {r : List UInt8} (h : b.toList.drop p = c :: r) : b[p]? = some c ∧ b.toList.drop (p + 1) = r ∧ p < b.size := by
  have h1 : b.toList[p]? = some c := by
    have := congrArg (fun l => l[0]?) h
    simpa using this
  have h2 : b.toList.drop (p + 1) = r := by
    have := congrArg List.tail h
    simpa using this
  refine ⟨by simpa using h1, h2, ?_⟩
  have := (List.getElem?_eq_some_iff.mp h1).1
  simpa using this
theorem getD_of {b : Array UInt8} {p : Nat} {c : UInt8} (h : b[p]? = some c) : b.getD p 0 = c := by
  simp [Array.getD_eq_getD_getElem?, h]

theorem at_one {b : Array UInt8} {p : Nat} {c : UInt8} (h0 : b[p]? = some c) (hc : c.toNat < 128) : Bytes.utf8At b p = (.char c.toNat, p + 1) := by
  unfold Bytes.utf8At
  rw [getD_of h0]
  simp only [if_pos hc]
theorem at_two {b : Array UInt8} {p : Nat} (h0 : b[p]? = some 195) (h1 : b[p + 1]? = some 169) : Bytes.utf8At b p = (.char 233, p + 2) := by
  unfold Bytes.utf8At
  rw [getD_of h0]
  simp [h1, Except.bind, List.range, List.range.loop]
theorem at_three {b : Array UInt8} {p : Nat} (h0 : b[p]? = some 226) (h1 : b[p + 1]? = some 130) (h2 : b[p + 2]? = some 172) : Bytes.utf8At b p = (.char 8364, p + 3) := by
  unfold Bytes.utf8At
  rw [getD_of h0]
  simp [h1, h2, Except.bind, List.range, List.range.loop]
theorem at_four {b : Array UInt8} {p : Nat} (h0 : b[p]? = some 240) (h1 : b[p + 1]? = some 159) (h2 : b[p + 2]? = some 152) (h3 : b[p + 3]? = some 128) : Bytes.utf8At b p = (.char 128512, p + 4) := by
  unfold Bytes.utf8At
  rw [getD_of h0]
  simp [h1, h2, h3, Except.bind, List.range, List.range.loop]

abbrev DecSt := Nat × Array Nat × Faults
theorem dec_loop {b : Array UInt8} {f : Nat → DecSt → Sem (ForInStep DecSt)}
    (hend : ∀ x p out st, b.size ≤ p → out.size ≤ sizeLine → f x (p, out, st) = pure (.done (p, out, st)))
    (hstep : ∀ x p out st c next, p < b.size → out.size ≤ sizeLine → Bytes.utf8At b p = (.char c, next) → f x (p, out, st) = pure (.yield (next, out ++ #[c], st))) :
    ∀ (l : List Nat) (p : Nat) (out : Array Nat) (st : Faults) (ds : List Nat), U8 (b.toList.drop p) ds → p ≤ b.size → ds.length ≤ l.length → out.size + ds.length ≤ sizeLine →
      forIn l ((p, out, st) : DecSt) f = (pure (b.size, out ++ ds.toArray, st) : Sem DecSt)
  | [], p, out, st, ds, h, hp, hl, hz => by
    have e : ds = [] := List.eq_nil_of_length_eq_zero (Nat.le_zero.mp hl)
    subst e
    generalize hb : b.toList.drop p = bs at h
    cases h
    have hp' : b.size ≤ p := by simpa using hb
    have : p = b.size := Nat.le_antisymm hp hp'
    subst this
    simp
  | x :: l, p, out, st, ds, h, hp, hl, hz => by
    generalize hb : b.toList.drop p = bs at h
    have go : ∀ (c next : Nat) (ds' : List Nat), ds = c :: ds' → p < b.size → next ≤ b.size → U8 (b.toList.drop next) ds' → Bytes.utf8At b p = (.char c, next) →
        forIn (x :: l) ((p, out, st) : DecSt) f = (pure (b.size, out ++ ds.toArray, st) : Sem DecSt) := by
      intro c next ds' e hlt hn hu ha
      subst e
      rw [List.forIn_cons, hstep x p out st c next hlt (by simp only [List.length_cons] at hz; omega) ha]
      show forIn l ((next, out ++ #[c], st) : DecSt) f = _
      rw [dec_loop hend hstep l next (out ++ #[c]) st ds' hu hn (by simp only [List.length_cons] at hl; omega) (by simp only [List.length_cons] at hz; simp; omega)]
      simp
    cases h with
    | nil =>
      have hp' : b.size ≤ p := by simpa using hb
      have : p = b.size := Nat.le_antisymm hp hp'
      subst this
      rw [List.forIn_cons, hend x _ out st (Nat.le_refl _) (by simpa using hz)]
      show (pure (b.size, out, st) : Sem DecSt) = _
      simp
    | @one c r ds' hc hu =>
      obtain ⟨g0, d0, l0⟩ := drop_get hb
      exact go _ _ _ rfl l0 (by omega) (d0 ▸ hu) (at_one g0 hc)
    | @two r ds' hu =>
      obtain ⟨g0, d0, l0⟩ := drop_get hb
      obtain ⟨g1, d1, l1⟩ := drop_get d0
      exact go _ _ _ rfl l0 (by omega) (d1 ▸ hu) (at_two g0 g1)
    | @three r ds' hu =>
      obtain ⟨g0, d0, l0⟩ := drop_get hb
      obtain ⟨g1, d1, l1⟩ := drop_get d0
      obtain ⟨g2, d2, l2⟩ := drop_get d1
      exact go _ _ _ rfl l0 (by omega) (d2 ▸ hu) (at_three g0 g1 g2)
    | @four r ds' hu =>
      obtain ⟨g0, d0, l0⟩ := drop_get hb
      obtain ⟨g1, d1, l1⟩ := drop_get d0
      obtain ⟨g2, d2, l2⟩ := drop_get d1
      obtain ⟨g3, d3, l3⟩ := drop_get d2
      exact go _ _ _ rfl l0 (by omega) (d3 ▸ hu) (at_four g0 g1 g2 g3)

theorem dec_run {b : Array UInt8} {ds : List Nat} (h : U8 b.toList ds) (hz : b.size ≤ sizeLine) (id : String) (errs : Option Str) :
    runDecoder id utf8Decoder errs true b 0 [] = pure (ds.toArray, b.size) := by
  have hlen := h.len
  have hlen' : ds.length ≤ b.size := by simpa using hlen
  unfold runDecoder
  dsimp only
  rw [Std.Legacy.Range.forIn_eq_forIn_range']
  rw [dec_loop (b := b) (ds := ds) ?_ ?_ _ 0 #[] _ (by simpa using h) (Nat.zero_le _) (by simp [Std.Legacy.Range.size]; exact hlen') (by simp; omega)]
  · simp
  · intro x p out st hp ho
    simp only [show ¬ (out.size > sizeLine) from Nat.not_lt.mpr ho, if_false, ge_iff_le, hp, if_true]
  · intro x p out st c next hp ho ha
    simp only [show ¬ (out.size > sizeLine) from Nat.not_lt.mpr ho, if_false, ge_iff_le, Nat.not_le.mpr hp, utf8Decoder, ha, Found.char]
end Mine
end
section
open PySem PySem.W PyProof.Rows PySem.Spec PySem.Calls
namespace Mine
open PySem.Builtin PySem.Builtin._codecs
set_option maxRecDepth 100000

theorem args_dec3 (a b c : Value) : argsOk "bytes.decode" ⟨[a, b, c], []⟩ := by
  unfold argsOk; rw [signature?_of (id := "bytes.decode") (n := ['e', 'd', 'o', 'c', 'e', 'd']) (o := ['s', 'e', 't', 'y', 'b']) (by kernel_rfl) FB.owner_bytes]; kernel_rfl

section
variable {b : Array UInt8} {c : UInt8} {cs : List UInt8} {t t1 t2 : Tok} {ds : List Nat}
theorem road3 {id : String} : decodeRoad id b (PySem.Str.ofString "utf-8") (some (PySem.Str.ofString "replace")) [] = (runDecoder id utf8Decoder (some (PySem.Str.ofString "replace")) true b 0 [] >>= fun r => mkStr ⟨r.1⟩) := by kernel_rfl
theorem meets_text3 {t3 : Tok} {d : PySem.Str} (hu : U8 b.toList ds) (hz : b.size ≤ sizeLine) :
    Meets («_codecs.decode.text» ⟨[.bytes b t, .str (PySem.Str.ofString "utf-8") t1, .str (PySem.Str.ofString "replace") t2, .str d t3], []⟩) (fun _ R s => R (.ok (.ret (.str ⟨ds.toArray⟩ s.toks))) { s with toks := s.toks + 1 }) := by
  refine .of_wp fun prog w A R s h => ?_
  show wpAny _ _ (Bytes.bytesLike _ (.bytes b t) >>= fun r => _) _ _ s
  refine wpAny_bind (wpAny_of_eq KBd.like_eq ?_)
  refine wpAny_bind (wpAny_of_eq KBd.held_eq ?_)
  show wpAny _ _ (decodeRoad _ b (PySem.Str.ofString "utf-8") (some (PySem.Str.ofString "replace")) [] >>= fun v => _) _ _ s
  rw [road3, dec_run hu hz]
  refine wpAny_bind (wpAny_bind (wpAny_pure ?_))
  refine wpAny_mkStr (wpAny_pure ⟨_, rfl, h⟩) ?_
  have := hu.len
  have h2 : ds.length ≤ b.size := by simpa using this
  show ds.toArray.size ≤ sizeLine
  rw [List.size_toArray]
  exact Nat.le_trans h2 hz
theorem entry3 : «bytes.decode» ⟨[.bytes (c :: cs).toArray t, .str (PySem.Str.ofString "utf-8") t1, .str (PySem.Str.ofString "replace") t2], []⟩ =
    (mkStr (PySem.Str.ofString "utf-8") >>= fun _ => mkStr (PySem.Str.ofString "utf-8") >>= fun e => mkStr (PySem.Str.ofString "replace") >>= fun r => mkStr (PySem.Str.ofString "bytes.decode") >>= fun d =>
    call (.builtin "_codecs.decode.text") [.bytes (c :: cs).toArray t, e, r, d] >>= fun v => ret v) := by kernel_rfl
theorem entry3_nil : «bytes.decode» ⟨[.bytes #[] t, .str (PySem.Str.ofString "utf-8") t1, .str (PySem.Str.ofString "replace") t2], []⟩ =
    (rule "bytes.decode.empty" >>= fun _ => mkStr PySem.Str.empty >>= fun v => ret v) := by kernel_rfl
theorem meets_dec3 (hu : U8 b.toList ds) (hz : b.size ≤ sizeLine) :
    Meets («bytes.decode» ⟨[.bytes b t, .str (PySem.Str.ofString "utf-8") t1, .str (PySem.Str.ofString "replace") t2], []⟩) (fun _ R s => ∀ t' k, R (.ok (.ret (.str ⟨ds.toArray⟩ t'))) { s with toks := k }) := by
  refine .of_wp fun prog w A R s h => ?_
  obtain ⟨l⟩ := b
  cases l with
  | nil =>
    cases hu
    rw [entry3_nil]
    refine wpAny_bind (wpAny_rule ?_)
    exact wpAny_bind (wpAny_mkStr (wpAny_pure ⟨_, rfl, h _ _⟩) (by decide))
  | cons c cs =>
    show wpAny _ _ («bytes.decode» ⟨[.bytes (c :: cs).toArray t, _, _], []⟩) _ _ _
    rw [entry3]
    refine wpAny_bind (wpAny_mkStr ?_ (by decide))
    refine wpAny_bind (wpAny_mkStr ?_ (by decide))
    refine wpAny_bind (wpAny_mkStr ?_ (by decide))
    refine wpAny_bind (wpAny_mkStr ?_ (by decide))
    exact wpAny_bind (call_function_meets KBd.kind_text KBd.plain_text KBd.entry_text (KBd.args_text _ _ _ _) (meets_text3 hu hz) (wpAny_pure ⟨_, rfl, h _ _⟩))
end
theorem decode3 {prog : Program} {w : World} {A : Around} {E : Value → Shared → Prop} {s : Shared} {b : Array UInt8} {t t1 t2 : Tok} {ds : List Nat} {Q : Value → Shared → Prop}
    (hu : U8 b.toList ds) (hz : b.size ≤ sizeLine) (h : ∀ t' k, Q (.str ⟨ds.toArray⟩ t') { s with toks := k }) :
    wpAny (model prog w) A (call (.builtin "bytes.decode") [.bytes b t, .str (PySem.Str.ofString "utf-8") t1, .str (PySem.Str.ofString "replace") t2]) Q E s :=
  call_meets FB.slot_bytes_decode (typeIs_bytes _ _ _) FB.entry_bytes_decode (args_dec3 _ _ _) (meets_dec3 hu hz) h
end Mine
end
section
open PySem PySem.W PyProof.Rows PySem.Spec PySem.Calls PySem.NumText
namespace Mine
set_option maxRecDepth 100000

def isHex (c : Nat) : Bool := (48 ≤ c && c ≤ 57) || (65 ≤ c && c ≤ 70) || (97 ≤ c && c ≤ 102)
def hexv (c : Nat) : Nat := if c ≤ 57 then c - 48 else if c ≤ 70 then c - 55 else c - 87
def hexs : List Nat := [48, 49, 50, 51, 52, 53, 54, 55, 56, 57, 65, 66, 67, 68, 69, 70, 97, 98, 99, 100, 101, 102]
theorem hex_mem {c : Nat} (h : isHex c = true) : c ∈ hexs := by
  have hb : c < 103 := by
    simp only [isHex, Bool.or_eq_true, Bool.and_eq_true, decide_eq_true_eq] at h
    omega
  have all : ∀ c : Nat, c < 103 → isHex c = true → c ∈ hexs := by decide +kernel
  exact all c hb h
def okHex (a b : Nat) : Bool :=
  (sign ([a, b].dropWhile blank)).1 == false && (based 16 (sign ([a, b].dropWhile blank)).2).1 == 16 && (based 16 (sign ([a, b].dropWhile blank)).2).2.1 == false &&
  digits? 16 (((based 16 (sign ([a, b].dropWhile blank)).2).2.2.reverse.dropWhile blank).reverse) == some #[hexv a, hexv b] && a != 0 && b != 0 && decide (a < 128) && decide (b < 128)
theorem okHex_all : (hexs.all fun a => hexs.all fun b => okHex a b) = true := by decide +kernel
theorem okHex_of {a b : Nat} (ha : isHex a = true) (hb : isHex b = true) : okHex a b = true :=
  List.all_eq_true.mp (List.all_eq_true.mp okHex_all a (hex_mem ha)) b (hex_mem hb)
theorem read16 {a b : Nat} (ha : isHex a = true) (hb : isHex b = true) : (int_private% "readNumeral") 0 16 [a, b] = (int_private% "Numeral.value") ((hexv a * 16 + hexv b : Nat) : Int) ∧ [a, b].takeWhile (· != 0) = [a, b] ∧ a < 128 ∧ b < 128 := by
  have h := okHex_of ha hb
  simp only [okHex, Bool.and_eq_true, beq_iff_eq, bne_iff_ne, ne_eq, decide_eq_true_eq] at h
  obtain ⟨⟨⟨⟨⟨⟨⟨h1, h2⟩, h3⟩, h4⟩, h5⟩, h6⟩, h7⟩, h8⟩ := h
  refine ⟨?_, ?_, h7, h8⟩
  · rw [readNumeral_eq, h1, h2, h3, h4]
    simp [judge]
  · simp [h5, h6]

theorem wp_text16 {M : Model} {A : Around} {E : Value → Shared → Prop} {s : Shared} {Q : Value → Shared → Prop} {v : Value} {text : List Nat} {n : Int}
    (hs : (text.takeWhile (· != 0)).length ≤ 640) (hr : (int_private% "readNumeral") 0 16 (text.takeWhile (· != 0)) = (int_private% "Numeral.value") n)
    (ha : ((text.takeWhile (· != 0)).length == text.length) = true) (h : Q (.int n s.toks) { s with toks := s.toks + 1 }) :
    wpAny M A ((int_private% "intFromText") v text 16) Q E s := by
  obtain ⟨hp, g, d, tk, os⟩ := s
  repeat (any_goals (first
    | assumption
    | (with_reducible refine wpAny_ite_true (decide_eq_true hs) ?_)
    | (with_reducible refine wpAny_ite_true (decide_eq_true ha) ?_)
    | wp_step))
  all_goals (try rw [hr])
  all_goals (try dsimp only)
  repeat (any_goals (first
    | assumption
    | (with_reducible refine wpAny_ite_true (decide_eq_true hs) ?_)
    | (with_reducible refine wpAny_ite_true (decide_eq_true ha) ?_)
    | wp_step))

theorem wp_hex {M : Model} {A : Around} {E : Value → Shared → Prop} {s : Shared} {Q : Value → Shared → Prop} {v : Value} {text : List Nat} {a b : Nat}
    (ha : isHex a = true) (hb : isHex b = true) (ht : text = [a, b]) (h : Q (.int ((hexv a * 16 + hexv b : Nat) : Int) s.toks) { s with toks := s.toks + 1 }) :
    wpAny M A ((int_private% "intFromText") v text (Int.toNat 16)) Q E s := by
  subst ht
  obtain ⟨r1, r2, r3, r4⟩ := read16 ha hb
  exact wp_text16 (by rw [r2]; exact (show (2 : Nat) ≤ 640 by decide)) (by rw [r2]; exact r1) (by rw [r2]; exact (show ((2 : Nat) == 2) = true from rfl)) h

structure Hid (p : Prop) : Prop where
  out : p
set_option maxHeartbeats 4000000 in
theorem gives_hex {a b : Nat} {u u' : Tok} (ha : isHex a = true) (hb : isHex b = true) : Gives (Builtin.«int.__new__» ⟨[.type "int", .str ⟨#[a, b]⟩ u, .int 16 u'], []⟩) (.int ((hexv a * 16 + hexv b : Nat) : Int)) :=
  .of_wp fun M A E s Q h => by
    obtain ⟨hp, g, d, tk, os⟩ := s
    have f1 := F.conv_sub_int
    have f2 := F.madeHere_int
    have f6 : typeOf (.str (⟨#[a, b]⟩ : PySem.Str) u) = pure (.type "str") := rfl
    have hk : Hid ((if (⟨#[a, b]⟩ : PySem.Str).cps.all (· < 128) then (⟨#[a, b]⟩ : PySem.Str).cps.toList else Unicode.numberText (⟨#[a, b]⟩ : PySem.Str).cps.toList) = [a, b]) := by
      obtain ⟨r1, r2, r3, r4⟩ := read16 ha hb
      refine ⟨if_pos ?_⟩
      simp [r3, r4]
    have hh : Hid (isHex a = true ∧ isHex b = true) := ⟨ha, hb⟩
    clear ha hb
    repeat (any_goals (first
      | assumption
      | ((with_reducible show wpAny _ _ ((int_private% "intFromText") _ _ _) _ _ _); refine wp_hex hh.out.1 hh.out.2 hk.out ?_)
      | wp_step))
    all_goals first | exact ⟨_, rfl, h⟩ | skip

theorem typeCall_int_2 (a b : Value) : checkTypeCall "int" ⟨[a, b], []⟩ = pure () := by kernel_rfl
theorem newCall_int_2 (a b : Value) : checkBuiltinCall "int.__new__" ⟨[.type "int", a, b], []⟩ = pure () := by kernel_rfl
theorem call_hex {prog : Program} {w : World} {A : Around} {E : Value → Shared → Prop} {s : Shared} {a b : Nat} {u u' : Tok} {Q : Value → Shared → Prop} (ha : isHex a = true) (hb : isHex b = true)
    (h : Q (.int ((hexv a * 16 + hexv b : Nat) : Int) s.toks) { s with toks := s.toks + 1 }) :
    wpAny (model prog w) A (call (.type "int") [.str ⟨#[a, b]⟩ u, .int 16 u']) Q E s :=
  callType_new F.called_int F.newNe_int (typeCall_int_2 _ _) (newCall_int_2 _ _) (fun obj => F.args_object_init_3 obj _ _) F.entry_int_new (gives_hex ha hb).meets (show (Made.int _).post _ s from ⟨rfl, h⟩)
end Mine
end
section
open PySem PySem.W PyProof.Rows PySem.Spec PySem.Calls
namespace Mine
open PySem.Builtin.Str
/-- the octets that unquote reads out of a text's signs -/
def octs : List Nat → List UInt8
  | 37 :: a :: b :: r => if isHex a && isHex b then (hexv a * 16 + hexv b).toUInt8 :: octs r else 37 :: octs (a :: b :: r)
  | c :: r => c.toUInt8 :: octs r
  | [] => []
theorem octs_esc {a b : Nat} {r : List Nat} (ha : isHex a = true) (hb : isHex b = true) : octs (37 :: a :: b :: r) = (hexv a * 16 + hexv b).toUInt8 :: octs r := by
  rw [octs, ha, hb]; rfl
theorem octs_ne {c : Nat} {r : List Nat} (h : c ≠ 37) : octs (c :: r) = c.toUInt8 :: octs r := by
  rw [octs]
  intro a b r' e1 e2
  exact absurd e1 h
theorem octs_short {c : Nat} {r : List Nat} (h : r.length < 2) : octs (c :: r) = c.toUInt8 :: octs r := by
  rw [octs]
  intro a b r' e1 e2
  rw [e2] at h
  simp only [List.length_cons] at h
  omega
theorem octs_no {c a b : Nat} {r : List Nat} (h : (isHex a && isHex b) = false) : octs (c :: a :: b :: r) = c.toUInt8 :: octs (a :: b :: r) := by
  by_cases hc : c = 37
  · subst hc
    rw [octs, h]; rfl
  · exact octs_ne hc

def sg (x : Str) (i : Nat) : Nat := x.cps.toList.getD i 0
theorem sg_drop {x : Str} {i : Nat} (h : i < x.length) : x.cps.toList.drop i = sg x i :: x.cps.toList.drop (i + 1) := by
  have h' : i < x.cps.toList.length := by simpa [Str.length] using h
  rw [List.drop_eq_getElem_cons h']
  unfold sg
  rw [List.getD_eq_getElem?_getD, List.getElem?_eq_getElem h']
  rfl
theorem sg_asc {x : Str} (hasc : ∀ c ∈ x.cps.toList, c < 128) (i : Nat) : sg x i < 128 := by
  unfold sg
  rw [List.getD_eq_getElem?_getD]
  cases h : x.cps.toList[i]? with
  | none => decide
  | some c => exact hasc c (List.mem_of_getElem? h)
theorem item_sg {x : Str} {k : Int} (h0 : 0 ≤ k) (h1 : k < (x.length : Int)) : Txt.item x k = ⟨#[sg x k.toNat]⟩ := by
  obtain ⟨i, rfl⟩ := Int.eq_ofNat_of_zero_le h0
  have hi : i < x.cps.size := by have : i < x.length := by omega
                                 exact this
  unfold Txt.item Txt.charAt seqIndex?
  have e1 : ¬ ((i : Int) < 0) := by omega
  have e2 : (i : Int) < (x.length : Int) := h1
  have e3 : ¬ ((x.length : Int) ≤ (i : Int)) := by omega
  simp [e1, e2, sg, List.getD_eq_getElem?_getD, hi]
theorem hex_list : (Str.ofString "0123456789ABCDEFabcdef").cps.toList = hexs := by decide +kernel
theorem hex_occ {c : Nat} : (!(occurrences (Str.ofString "0123456789ABCDEFabcdef") ⟨#[c]⟩ 0 (Str.ofString "0123456789ABCDEFabcdef").length 1).isEmpty) = isHex c := by
  rw [StrLaws.found_one, hex_list, Bool.eq_iff_iff, decide_eq_true_eq]
  constructor
  · intro h
    have all : ∀ c ∈ hexs, isHex c = true := by decide
    exact all c h
  · exact hex_mem

abbrev HexAt (x : Str) (k : Int) : Prop := (occurrences (Str.ofString "0123456789ABCDEFabcdef") (Txt.item x k) 0 (Str.ofString "0123456789ABCDEFabcdef").length 1).isEmpty = false
abbrev NoHexAt (x : Str) (k : Int) : Prop := (occurrences (Str.ofString "0123456789ABCDEFabcdef") (Txt.item x k) 0 (Str.ofString "0123456789ABCDEFabcdef").length 1).isEmpty = true
theorem hexAt {x : Str} {k : Int} (h0 : 0 ≤ k) (h1 : k < (x.length : Int)) (h : HexAt x k) : isHex (sg x k.toNat) = true := by
  unfold HexAt at h
  rw [item_sg h0 h1] at h
  rw [← hex_occ, h]; rfl
theorem noHexAt {x : Str} {k : Int} (h0 : 0 ≤ k) (h1 : k < (x.length : Int)) (h : NoHexAt x k) : isHex (sg x k.toNat) = false := by
  unfold NoHexAt at h
  rw [item_sg h0 h1] at h
  rw [← hex_occ, h]; rfl

theorem pct : Str.ofString "%" = ⟨#[37]⟩ := by decide +kernel
theorem item_pct {x : Str} {k : Int} (h0 : 0 ≤ k) (h1 : k < (x.length : Int)) : (Txt.item x k == Str.ofString "%") = (sg x k.toNat == 37) := by
  rw [item_sg h0 h1, pct, Bool.eq_iff_iff, beq_iff_eq, beq_iff_eq, Str.mk.injEq]
  constructor
  · intro h
    have := congrArg (fun a => a.toList) h
    simpa using this
  · intro h; rw [h]

def UnqInv (x : Str) (o : Array UInt8) (k : Int) : Prop :=
  octs x.cps.toList = o.toList ++ octs (x.cps.toList.drop k.toNat)
def UnqSt (x : Str) (told : Str) (o : Array UInt8) (k : Int) : Prop := told = Str.empty ∧ 0 ≤ k ∧ k ≤ (x.length : Int) ∧ o.size ≤ k.toNat ∧ UnqInv x o k

theorem unq_start (x : Str) : Str.ofString "" = Str.empty ∧ (0 : Int) ≤ 0 ∧ (0 : Int) ≤ ↑x.length ∧ (#[] : Array UInt8).size ≤ Int.toNat 0 ∧ UnqInv x #[] 0 :=
  ⟨by decide +kernel, Int.le_refl _, Int.natCast_nonneg _, Nat.le_refl _, rfl⟩

section
variable {x told : Str} {o : Array UInt8} {k : Int}
theorem unq_lit (ht : told = Str.empty) (h0 : 0 ≤ k) (h1 : k < (x.length : Int)) (hz : o.size ≤ k.toNat) (hi : UnqInv x o k)
    (hn : octs (sg x k.toNat :: x.cps.toList.drop (k.toNat + 1)) = (sg x k.toNat).toUInt8 :: octs (x.cps.toList.drop (k.toNat + 1))) :
    told = Str.empty ∧ 0 ≤ k + 1 ∧ k + 1 ≤ (x.length : Int) ∧ (o ++ #[((((Txt.item x k).cps.getD 0 0 : Nat) : Int)).toNat.toUInt8]).size ≤ (k + 1).toNat ∧ UnqInv x (o ++ #[((((Txt.item x k).cps.getD 0 0 : Nat) : Int)).toNat.toUInt8]) (k + 1) := by
  have e : (k + 1).toNat = k.toNat + 1 := by omega
  refine ⟨ht, by omega, by omega, by rw [e]; simp; omega, ?_⟩
  unfold UnqInv at hi ⊢
  rw [hi, e, sg_drop (by omega), hn, item_sg h0 h1]
  simp
theorem unq_w1 (ht : told = Str.empty) (h0 : 0 ≤ k) (hz : o.size ≤ k.toNat) (hi : UnqInv x o k) (h1 : k < (x.length : Int)) (c : (Txt.item x k == Str.ofString "%") = false) :
    told = Str.empty ∧ 0 ≤ k + 1 ∧ k + 1 ≤ (x.length : Int) ∧ (o ++ #[((((Txt.item x k).cps.getD 0 0 : Nat) : Int)).toNat.toUInt8]).size ≤ (k + 1).toNat ∧ UnqInv x (o ++ #[((((Txt.item x k).cps.getD 0 0 : Nat) : Int)).toNat.toUInt8]) (k + 1) :=
  unq_lit ht h0 h1 hz hi (octs_ne (by rw [item_pct h0 h1] at c; simpa using c))
theorem unq_w2 (ht : told = Str.empty) (h0 : 0 ≤ k) (hz : o.size ≤ k.toNat) (hi : UnqInv x o k) (h1 : k < (x.length : Int)) (c : ¬ k + 2 < (x.length : Int)) :
    told = Str.empty ∧ 0 ≤ k + 1 ∧ k + 1 ≤ (x.length : Int) ∧ (o ++ #[((((Txt.item x k).cps.getD 0 0 : Nat) : Int)).toNat.toUInt8]).size ≤ (k + 1).toNat ∧ UnqInv x (o ++ #[((((Txt.item x k).cps.getD 0 0 : Nat) : Int)).toNat.toUInt8]) (k + 1) :=
  unq_lit ht h0 h1 hz hi (octs_short (by rw [List.length_drop]; have : x.cps.toList.length = x.length := by simp [Str.length]
                                         omega))
theorem drop2 (h0 : 0 ≤ k) (h2 : k + 2 < (x.length : Int)) : x.cps.toList.drop (k.toNat + 1) = sg x (k + 1).toNat :: sg x (k + 2).toNat :: x.cps.toList.drop (k + 3).toNat := by
  have e1 : (k + 1).toNat = k.toNat + 1 := by omega
  have e2 : (k + 2).toNat = k.toNat + 1 + 1 := by omega
  have e3 : (k + 3).toNat = k.toNat + 1 + 1 + 1 := by omega
  rw [e1, e2, e3, sg_drop (i := k.toNat + 1) (by omega), sg_drop (i := k.toNat + 1 + 1) (by omega)]
theorem unq_w3 (ht : told = Str.empty) (h0 : 0 ≤ k) (hz : o.size ≤ k.toNat) (hi : UnqInv x o k) (h1 : k < (x.length : Int)) (h2 : k + 2 < (x.length : Int)) (c : NoHexAt x (k + 1)) :
    told = Str.empty ∧ 0 ≤ k + 1 ∧ k + 1 ≤ (x.length : Int) ∧ (o ++ #[((((Txt.item x k).cps.getD 0 0 : Nat) : Int)).toNat.toUInt8]).size ≤ (k + 1).toNat ∧ UnqInv x (o ++ #[((((Txt.item x k).cps.getD 0 0 : Nat) : Int)).toNat.toUInt8]) (k + 1) := by
  refine unq_lit ht h0 h1 hz hi ?_
  have hh := noHexAt (by omega) (by omega) c
  rw [drop2 h0 h2]
  exact octs_no (by rw [hh]; rfl)
theorem unq_w4 (ht : told = Str.empty) (h0 : 0 ≤ k) (hz : o.size ≤ k.toNat) (hi : UnqInv x o k) (h1 : k < (x.length : Int)) (h2 : k + 2 < (x.length : Int)) (c : NoHexAt x (k + 2)) :
    told = Str.empty ∧ 0 ≤ k + 1 ∧ k + 1 ≤ (x.length : Int) ∧ (o ++ #[((((Txt.item x k).cps.getD 0 0 : Nat) : Int)).toNat.toUInt8]).size ≤ (k + 1).toNat ∧ UnqInv x (o ++ #[((((Txt.item x k).cps.getD 0 0 : Nat) : Int)).toNat.toUInt8]) (k + 1) := by
  refine unq_lit ht h0 h1 hz hi ?_
  have hh := noHexAt (by omega) (by omega) c
  rw [drop2 h0 h2]
  exact octs_no (by rw [hh, Bool.and_false])

/-- the octet that an escape at k says -/
def hexN (x : Str) (k : Int) : Int := ((hexv (sg x (k + 1).toNat) * 16 + hexv (sg x (k + 2).toNat) : Nat) : Int)
theorem unq_esc (ht : told = Str.empty) (h0 : 0 ≤ k) (hz : o.size ≤ k.toNat) (hi : UnqInv x o k) (h2 : k + 2 < (x.length : Int)) (c0 : (Txt.item x k == Str.ofString "%") = true) (c1 : HexAt x (k + 1)) (c2 : HexAt x (k + 2)) :
    told = Str.empty ∧ 0 ≤ k + 3 ∧ k + 3 ≤ (x.length : Int) ∧ (o ++ #[(hexN x k).toNat.toUInt8]).size ≤ (k + 3).toNat ∧ UnqInv x (o ++ #[(hexN x k).toNat.toUInt8]) (k + 3) := by
  have e : (k + 3).toNat = k.toNat + 3 := by omega
  refine ⟨ht, by omega, by omega, by rw [e]; simp; omega, ?_⟩
  have g0 : sg x k.toNat = 37 := by rw [item_pct h0 (by omega)] at c0; simpa using c0
  have g1 := hexAt (by omega) (by omega) c1
  have g2 := hexAt (by omega) (by omega) c2
  unfold UnqInv at hi ⊢
  rw [hi, sg_drop (by omega), g0, drop2 h0 h2, octs_esc g1 g2]
  have en : (hexN x k).toNat = hexv (sg x (k + 1).toNat) * 16 + hexv (sg x (k + 2).toNat) := by unfold hexN; omega
  rw [en, Array.toList_append]
  simp only [List.append_assoc, List.cons_append, List.nil_append]
theorem unq_asc (hasc : ∀ c ∈ x.cps.toList, c < 128) (h0 : 0 ≤ k) (h1 : k < (x.length : Int)) (c : ¬ (((Txt.item x k).cps.getD 0 0 : Nat) : Int) < 128) : False := by
  rw [item_sg h0 h1] at c
  have := sg_asc hasc k.toNat
  exact c (by show ((sg x k.toNat : Nat) : Int) < 128; omega)
theorem unq_done {ds : List Nat} (hu : U8 (octs x.cps.toList) ds) (h1 : ¬ k < (x.length : Int)) (hi : UnqInv x o k) : U8 o.toList ds := by
  unfold UnqInv at hi
  rw [List.drop_eq_nil_of_le (by have : x.cps.toList.length = x.length := by simp [Str.length]
                                 omega)] at hi
  rw [hi] at hu
  simpa [octs] using hu
theorem hexv_lt {c : Nat} (h : isHex c = true) : hexv c < 16 := by
  have all : ∀ c ∈ hexs, hexv c < 16 := by decide
  exact all c (hex_mem h)
theorem slice_hex (h0 : 0 ≤ k) (h2 : k + 2 < (x.length : Int)) : Txt.slice x (some (k + 1)) (some (k + 3)) = ⟨#[sg x (k + 1).toNat, sg x (k + 2).toNat]⟩ := by
  rw [beq_iff_eq.mp (slice_closesL (x := x) (i := k + 1) (j := k + 3) (by omega) (by omega) (by omega))]
  have e1 : (k + 1).toNat = k.toNat + 1 := by omega
  have e4 : (k + 3 - (k + 1)).toNat = 2 := by omega
  rw [e4, e1, drop2 h0 h2, e1]
  rfl
end
theorem octs_len : ∀ l : List Nat, (octs l).length ≤ l.length
  | [] => Nat.le_refl _
  | c :: r => by
    match c, r with
    | c, [] => rw [octs_short (by simp)]; simp [octs]
    | c, [a] => rw [octs_short (by simp), octs_short (by simp)]; simp [octs]
    | c, a :: b :: r =>
      have i1 := octs_len (a :: b :: r)
      have i2 := octs_len r
      by_cases hc : c = 37
      · subst hc
        by_cases hh : (isHex a && isHex b) = true
        · have h2 := Bool.and_eq_true_iff.mp hh
          rw [octs_esc h2.1 h2.2]
          simp only [List.length_cons]; omega
        · rw [octs_no (Bool.eq_false_iff.mpr hh)]
          simp only [List.length_cons] at i1 ⊢; omega
      · rw [octs_ne hc]
        simp only [List.length_cons] at i1 ⊢; omega
theorem add_empty {prog : Program} {w : World} {A : Around} {E : Value → Shared → Prop} {s : Shared} {told y : Str} {t u : Tok} {Q : Value → Shared → Prop} (ht : told = Str.empty) (hz : y.length ≤ sizeLine) (h : ∀ t' k, Q (.str y t') { s with toks := k }) :
    wpAny (model prog w) A (binaryOp .Add (.str told t) (.str y u)) Q E s := by
  subst ht
  have h0 : Str.empty.length = 0 := rfl
  refine SB.add (fun t' k => ?_) (by rw [h0, Nat.zero_add]; exact hz)
  rw [Str.empty_append]
  exact h t' k
theorem genToks {α : Type} {M : Model} {A : Around} {t : Sem α} {Q : α → Shared → Prop} {E : Value → Shared → Prop} {hp : Heap} {g : Array GenState} {d : Drawn} {X : Nat} {o : OsState}
    (h : ∀ tk, wpAny M A t Q E { heap := hp, gens := g, drawn := d, toks := tk, os := o }) : wpAny M A t Q E { heap := hp, gens := g, drawn := d, toks := X, os := o } := h _
theorem call_hexAt {prog : Program} {w : World} {A : Around} {E : Value → Shared → Prop} {s : Shared} {x : Str} {k : Int} {u u' : Tok} {Q : Value → Shared → Prop}
    (h0 : 0 ≤ k) (h2 : k + 2 < (x.length : Int)) (c1 : HexAt x (k + 1)) (c2 : HexAt x (k + 2)) (h : 0 ≤ hexN x k → hexN x k < 256 → Q (.int (hexN x k) s.toks) { s with toks := s.toks + 1 }) :
    wpAny (model prog w) A (call (.type "int") [.str (Txt.slice x (some (k + 1)) (some (k + 3))) u, .int 16 u']) Q E s := by
  rw [slice_hex h0 h2]
  have g1 := hexAt (by omega) (by omega) c1
  have g2 := hexAt (by omega) (by omega) c2
  have v1 := hexv_lt g1
  have v2 := hexv_lt g2
  refine call_hex g1 g2 (h ?_ ?_)
  · exact Int.natCast_nonneg _
  · unfold hexN; omega
end Mine
end
section
open PySem PySem.W PyProof.Rows PySem.Spec PySem.Calls
namespace Mine
section
local macro_rules | `(tactic| walk_at "execs cons") => `(tactic| (k_here; with_reducible refine wpAny_execs_cons ?_))
local macro_rules | `(tactic| walk_at "exec If") => `(tactic| (k_here; with_reducible refine wpAny_If ?_))
local macro_rules | `(tactic| walk_at "call type:int") => `(tactic| (k_here; (with_reducible show wpAny _ _ (call (Value.type "int") [Value.str (Txt.slice _ _ _) _, Value.int _ _]) _ _ _); (refine call_hexAt (by with_reducible assumption) (by with_reducible assumption) (by with_reducible assumption) (by with_reducible assumption) ?_); intro hx0 hx1))
local macro_rules | `(tactic| walk_at "call builtin:bytes.decode") => `(tactic| (k_here; (with_reducible show wpAny _ _ (call (Value.builtin "bytes.decode") [_, _, _]) _ _ _); first
  | (exfalso; exact unq_asc (by with_reducible assumption) (by with_reducible assumption) (by with_reducible assumption) (by with_reducible assumption))
  | ((refine decode3 (unq_done (by with_reducible assumption) (by with_reducible assumption) (by with_reducible assumption)) (by rw [sizeLine_eq]; omega) ?_); intro t7 k7)))
local macro_rules | `(tactic| walk_at "binaryOp Add str str") => `(tactic| (k_here; (refine add_empty (by with_reducible assumption) (by with_reducible assumption) ?_); intro t7 k7))
set_option maxRecDepth 100000 in
set_option maxHeartbeats 8000000 in
theorem unq (w : World) (loose : List Str) (mean : ExcName → Option Value) (mg mb : Str → Option Value) (news : List (Addr × Obj)) (x : Str) (tx : Tok) (ds : List Nat)
    (hasc : ∀ c ∈ x.cps.toList, c < 128) (hl : x.length ≤ 4096) (hu : U8 (octs x.cps.toList) ds) :
    CbClaim Challenge.rw_ep5034_01.row.prog w (Mine.hd.heap_39 w.params) Mine.hd.view_39 loose mean mg mb 21 news [] True [.str x tx] (fun t => .str ⟨ds.toArray⟩ t) := by
  w_top off
  k_with_none
  k_fill
  dsimp only [CbClaim, CbLists, CbRet]
  intros
  rename_i hret
  refine wpAny_call ?_
  k_dflt cell_enter
  refine genToks ?_
  intro tk0
  rename Fr _ _ _ (fun y => List.lookup y _) => F0
  have F1 : Fr _ _ _ (fun y => List.lookup y [(Str.ofString "text", Value.str x tx)]) := F0
  clear F0
  have hl63 : (x.length : Int) < 9223372036854775808 := by omega
  have hdz : (⟨ds.toArray⟩ : Str).length ≤ sizeLine := by
    have h1 := hu.len
    have h2 := octs_len x.cps.toList
    have h3 : x.cps.toList.length = x.length := by simp [Str.length]
    have h4 : (⟨ds.toArray⟩ : Str).length = ds.length := by simp [Str.length]
    rw [h4, sizeLine_eq]
    omega
  k_with "exec While Compare cons nil" => k_while (fun _ told o k => told = Str.empty ∧ 0 ≤ k ∧ k ≤ (x.length : Int) ∧ o.size ≤ k.toNat ∧ UnqInv x o k) (fun _ _ _ k => x.length - k.toNat) "told" "octets" "k"
  k_with "state" => first
    | exact unq_start x
    | exact unq_w1 (by with_reducible assumption) (by with_reducible assumption) (by with_reducible assumption) (by with_reducible assumption) (by with_reducible assumption) (by with_reducible assumption)
    | exact unq_w2 (by with_reducible assumption) (by with_reducible assumption) (by with_reducible assumption) (by with_reducible assumption) (by with_reducible assumption) (by with_reducible assumption)
    | exact unq_w3 (by with_reducible assumption) (by with_reducible assumption) (by with_reducible assumption) (by with_reducible assumption) (by with_reducible assumption) (by with_reducible assumption) (by with_reducible assumption)
    | exact unq_w4 (by with_reducible assumption) (by with_reducible assumption) (by with_reducible assumption) (by with_reducible assumption) (by with_reducible assumption) (by with_reducible assumption) (by with_reducible assumption)
    | exact unq_esc (by with_reducible assumption) (by with_reducible assumption) (by with_reducible assumption) (by with_reducible assumption) (by with_reducible assumption) (by with_reducible assumption) (by with_reducible assumption) (by with_reducible assumption)
  k_steps
  all_goals cb_end hret
end
end Mine
end
section
open PySem PySem.W PyProof.Rows PySem.Spec PySem.Calls
namespace Mine
/-- a text that unquote reads to ds -/
structure UnqOk (x : Str) (ds : List Nat) : Prop where
  asc : ∀ c ∈ x.cps.toList, c < 128
  len : x.length ≤ 4096
  u8 : U8 (octs x.cps.toList) ds
abbrev plusTo (x : Str) : Str := Txt.replace x (Str.ofString "+") (Str.ofString " ")
abbrev nameOf (p : Str) : Str := (Txt.partition p (Str.ofString "=")).1
abbrev valueOf (p : Str) : Str := (Txt.partition p (Str.ofString "=")).2.2
structure PartOk (rd : Str → List Nat) (p : Str) : Prop where
  plen : p.length ≤ 4096
  nlen : (nameOf p).length ≤ 4096
  vlen : (valueOf p).length ≤ 4096
  name : UnqOk (plusTo (nameOf p)) (rd (nameOf p))
  value : UnqOk (plusTo (valueOf p)) (rd (valueOf p))
/-- the rows that parse_qsl lays for one part -/
def rowOf (keep : Bool) (rd : Str → List Nat) (p : Str) : List Dat :=
  if p.length ≠ 0 ∧ ((valueOf p).length ≠ 0 ∨ keep = true) then [.tuple [.str ⟨(rd (nameOf p)).toArray⟩, .str ⟨(rd (valueOf p)).toArray⟩]] else []
def rowD (keep : Bool) (rd : Str → List Nat) : Dat → List Dat
  | .str p => rowOf keep rd p
  | _ => []
def rowsOf (keep : Bool) (rd : Str → List Nat) (ds : List Dat) : List Dat := ds.flatMap (rowD keep rd)

theorem rows_snoc {keep : Bool} {rd : Str → List Nat} {pre : List Dat} {p : Str} : rowsOf keep rd (pre ++ [.str p]) = rowsOf keep rd pre ++ rowOf keep rd p := by
  unfold rowsOf
  rw [List.flatMap_append, List.flatMap_cons, List.flatMap_nil, List.append_nil]
  rfl
theorem rows_skip0 {keep : Bool} {rd : Str → List Nat} {pre : List Dat} {p : Str} (h : p.length = 0) : rowsOf keep rd pre = rowsOf keep rd (pre ++ [.str p]) := by
  rw [rows_snoc, rowOf, if_neg (fun q => q.1 h), List.append_nil]
theorem rows_skip1 {rd : Str → List Nat} {pre : List Dat} {p : Str} (h : (valueOf p).length = 0) : rowsOf false rd pre = rowsOf false rd (pre ++ [.str p]) := by
  rw [rows_snoc, rowOf, if_neg (fun q => q.2.elim (fun z => z h) fun z => nomatch z), List.append_nil]
theorem rows_add {keep : Bool} {rd : Str → List Nat} {pre : List Dat} {p : Str} (h : p.length ≠ 0) (h2 : (valueOf p).length ≠ 0) :
    rowsOf keep rd pre ++ [.tuple [.str ⟨(rd (nameOf p)).toArray⟩, .str ⟨(rd (valueOf p)).toArray⟩]] = rowsOf keep rd (pre ++ [.str p]) := by
  rw [rows_snoc, rowOf, if_pos ⟨h, .inl h2⟩]
theorem rows_keep {rd : Str → List Nat} {pre : List Dat} {p : Str} (h : p.length ≠ 0) :
    rowsOf true rd pre ++ [.tuple [.str ⟨(rd (nameOf p)).toArray⟩, .str ⟨(rd (valueOf p)).toArray⟩]] = rowsOf true rd (pre ++ [.str p]) := by
  rw [rows_snoc, rowOf, if_pos ⟨h, .inr rfl⟩]
theorem rows_len (keep : Bool) (rd : Str → List Nat) : ∀ ds : List Dat, (rowsOf keep rd ds).length ≤ ds.length
  | [] => Nat.le_refl _
  | d :: ds => by
    have ih := rows_len keep rd ds
    have h1 : (rowD keep rd d).length ≤ 1 := by
      unfold rowD
      split
      · unfold rowOf
        split <;> simp
      · simp
    have e : rowsOf keep rd (d :: ds) = rowD keep rd d ++ rowsOf keep rd ds := List.flatMap_cons
    rw [e, List.length_append, List.length_cons]
    omega
theorem rows_pair {keep : Bool} {rd : Str → List Nat} {ds a : List Dat} (h : a = rowsOf keep rd ds) : a = rowsOf keep rd ds ∧ a.length ≤ ds.length := by
  subst h
  exact ⟨rfl, rows_len _ _ _⟩
theorem mem_turn {α : Type} {d : α} {l t : List α} : ∀ p, p ∈ d :: (l ++ t) ↔ p ∈ l ++ (d :: t) := by
  intro p
  simp only [List.mem_cons, List.mem_append]
  constructor
  · rintro (h | h | h)
    · exact .inr (.inl h)
    · exact .inl h
    · exact .inr (.inr h)
  · rintro (h | h | h)
    · exact .inr (.inl h)
    · exact .inl h
    · exact .inr (.inr h)
theorem parse_end {h₀ h' : Heap} {L r : Addr} {d : Addr × Obj} {us : List Value} {nn tk' : Nat} {m : Str → Option Value} {news tl : List (Addr × Obj)} {rows : List Dat} {s : Shared} {Q : Value → Shared → Prop}
    (ret : ∀ r us nn tl h' tk', Fr h₀ L h' m → News h₀ L h' ((r, listOf us.toArray nn) :: (news ++ tl)) → DatAll (news ++ tl) us rows → Q (.ref r) { s with heap := h', toks := tk' })
    (F : Fr h₀ L h' m) (N : News h₀ L h' ((r, listOf us.toArray nn) :: d :: (news ++ tl))) (D : DatAll (d :: (news ++ tl)) us rows) : Q (.ref r) { s with heap := h', toks := tk' } := by
  refine ret r us nn (d :: tl) h' tk' F (fun p hp => N p ?_) (D.mono fun p hp => (mem_turn p).mp hp)
  rcases List.mem_cons.mp hp with e | e
  · exact List.mem_cons.mpr (.inl e)
  · exact List.mem_cons.mpr (.inr ((mem_turn p).mpr e))
section
variable {prog : Program} {w : World} {A : Around} {E : Value → Shared → Prop} {Q : Value → Shared → Prop} {s : Shared} {h₀ : Heap} {L : Addr} {m : Str → Option Value} {news : List (Addr × Obj)}
theorem keepToks {α : Type} {M : Model} {t : Sem α} {Q : α → Shared → Prop} {hp : Heap} {g : Array GenState} {d : Drawn} {X : Nat} {o : OsState}
    (h : ∀ tk, 1 ≤ tk → wpAny M A t Q E { heap := hp, gens := g, drawn := d, toks := tk, os := o }) : wpAny M A t Q E { heap := hp, gens := g, drawn := d, toks := X + 1, os := o } := h _ (Nat.le_add_left _ _)
theorem my_replace {x : Str} {t : Tok} {T : Nat} (hT : 1 ≤ T) (hs : 1 ≤ s.toks) (hx : x.length ≤ 4096) (hq : ∀ t' k, 1 ≤ k → Q (.str (plusTo x) t') { s with toks := k }) :
    wpAny (model prog w) A (call (.builtin "str.replace") [.str x t, .str (Str.ofString "+") T, .str (Str.ofString " ") (T + 1)]) Q E s :=
  wpAny_with_toks (n := 1) hs (SC.replaceW (by show T ≠ 0; omega) (by show T + 1 ≠ 0; omega) (by show T ≠ T + 1; omega) (by decide +kernel) (by omega) (by decide +kernel) fun t' k hk => hq t' k hk)
theorem my_partition {x : Str} {t u : Tok} (hF : Fr h₀ L s.heap m) (hN : News h₀ L s.heap news) (hs : 1 ≤ s.toks) (hsz : x.length ≤ 4096)
    (h : ∀ D ta tb tc h' k, 1 ≤ k → Fr h₀ L h' m → News h₀ L h' ((D, { cls := .type "tuple", data := .seq [.str (nameOf x) ta, .str (Txt.partition x (Str.ofString "=")).2.1 tb, .str (valueOf x) tc].toArray }) :: news) → (∀ a ∈ news, a.1 < D) → Q (.ref D) { s with heap := h', toks := k }) :
    wpAny (model prog w) A (call (.builtin "str.partition") [.str x t, .str (Str.ofString "=") u]) Q E s :=
  wpAny_with_toks (n := 1) hs (KXpa.partition hF hN (by decide) rfl rfl rfl (by rw [sizeLine_eq]; omega) fun D ta tb tc h' k F N l1 hk => h D ta tb tc h' k hk F N l1)
theorem my_truthy {x : Str} {t : Tok} {Q : Bool → Shared → Prop} (hl : x.length ≤ 4096) (h1 : x.length ≠ 0 → ∀ k, 1 ≤ k → Q true { s with toks := k }) (h0 : x.length = 0 → ∀ k, 1 ≤ k → Q false { s with toks := k }) :
    wpAny (model prog w) A (truthy (.str x t)) Q E s := by
  refine P.truthy_str (by omega) ?_
  by_cases hx : x.length = 0
  · have e : ((x.length : Int) != 0) = false := by rw [hx]; rfl
    rw [e]
    exact h0 hx _ (Nat.le_add_left _ _)
  · have e : ((x.length : Int) != 0) = true := by rw [bne_iff_ne]; omega
    rw [e]
    exact h1 hx _ (Nat.le_add_left _ _)
theorem datStrs (L9 : List (Addr × Obj)) : ∀ l : List (Str × Tok), DatAll L9 (strValues l) ((l.map (·.1)).map Dat.str)
  | [] => .nil
  | _ :: r => .cons (.str _ _) (datStrs L9 r)
theorem my_split {x : Str} {t u : Tok} {ps : List Str} (hp : Txt.split x (Str.ofString "&") = ps) (hF : Fr h₀ L s.heap m) (hN : News h₀ L s.heap news) (hsz : x.length + 2 ≤ sizeLine)
    (h : ∀ D vs h' k, DatAll [(D, listOf vs.toArray 0)] vs (ps.map Dat.str) → Fr h₀ L h' m → News h₀ L h' ((D, listOf vs.toArray 0) :: news) → (∀ p ∈ news, p.1 < D) → Q (.ref D) { s with heap := h', toks := k }) :
    wpAny (model prog w) A (call (.builtin "str.split") [.str x t, .str (Str.ofString "&") u]) Q E s := by
  refine KSpl.split1 hF hN (by decide) (fun D l h' k e _ F N l1 => h D _ h' k ?_ F N l1) hsz
  rw [← hp, ← e]
  exact datStrs _ l
end
end Mine
end
section
open PySem PySem.W PyProof.Rows PySem.Spec PySem.Calls
namespace Mine
theorem unq_use {w : World} {loose : List Str} {mean : ExcName → Option Value} {mg mb : Str → Option Value} {news : List (Addr × Obj)} {x : Str} {tx : Tok} {ds : List Nat}
    {dp un : Nat} {gd : Option (List Code)} {cn : Str} {cs : Scope} {a : Addr} {ccd : Value} {cl : List (Str × Addr)} {outer : List Env} {A₀ : Around} {base h₀ : Heap} {L : Addr} {m : Str → Option Value} {s : Shared} {Q E : Value → Shared → Prop}
    (B : Below A₀ base outer h₀) (F : Fr h₀ L s.heap m) (X : (Mine.hd.heap_39 w.params).In h₀) (N : News h₀ L s.heap news) (T : Top Mine.hd.view_39 loose mean mg mb h₀) (hk : cs.kind = .function) (U : UnqOk x ds)
    (ht : 1 ≤ s.toks) (hd : dp + 1 < recursionLimit) (hu : un + 8 < cLine) (ret : ∀ t h' tk', 1 ≤ tk' → Fr h₀ L h' m → News h₀ L h' news → Q (.str ⟨ds.toArray⟩ t) { s with heap := h', toks := tk' }) :
    wpAny (model Challenge.rw_ep5034_01.row.prog w) (ktrTop dp un gd cn cs L a ccd cl outer) (call (.ref 21) [.str x tx]) Q E s :=
  wpAny_with_toks (n := 1) ht (unq w loose mean mg mb news x tx ds U.asc U.len U.u8 dp un gd cn cs a ccd cl outer A₀ base h₀ L m s _ _ B F X N T hk trivial hd hu fun t h' tk' F' N' h1 => ret t h' tk' h1 F' N')

section
local macro_rules | `(tactic| walk_at "call builtin:str.split") => `(tactic| (k_here; (with_reducible show wpAny _ _ (call (Value.builtin "str.split") [Value.str _ _, Value.str _ _]) _ _ _); (refine my_split (by with_reducible assumption) (by k_asm) (by k_asm) (by with_reducible assumption) ?_); intro D' vs' h' k' a' F' N' l1; (try k_lt l1)))
local macro_rules | `(tactic| walk_at "execs cons") => `(tactic| (k_here; (with_reducible refine keepToks ?_); intro tk7 htk7))
local macro_rules | `(tactic| walk_at "call builtin:str.partition") => `(tactic| (k_here; (with_reducible show wpAny _ _ (call (Value.builtin "str.partition") [Value.str _ _, Value.str _ _]) _ _ _); (refine my_partition (by k_asm) (by k_asm) (by (try dsimp only); omega) (PartOk.plen (by with_reducible assumption)) ?_); intro D' _ _ _ h' k' hk' F' N' l1; (try k_lt l1)))
local macro_rules | `(tactic| walk_at "call builtin:str.replace") => `(tactic| (k_here; (with_reducible show wpAny _ _ (call (Value.builtin "str.replace") [Value.str _ _, Value.str _ _, Value.str _ _]) _ _ _); (refine my_replace (by (try dsimp only); omega) (by (try dsimp only); omega) (by first | exact PartOk.nlen (by with_reducible assumption) | exact PartOk.vlen (by with_reducible assumption)) ?_); intro t7 k7 hk7))
local macro_rules | `(tactic| walk_at "truthy str") => `(tactic| (k_here; (with_reducible show wpAny _ _ (PySem.truthy (Value.str _ _)) _ _ _); (refine my_truthy (by first | exact PartOk.plen (by with_reducible assumption) | exact PartOk.vlen (by with_reducible assumption)) ?_ ?_); all_goals (intro htr7 k7 hk7)))
local macro_rules | `(tactic| walk_at "call ref") => `(tactic| (k_here; (with_reducible show wpAny _ _ (call (Value.ref 21) [Value.str _ _]) _ _ _); k_dflt (refine' unq_use ?k1 ?k2 ?k3 ?k4 ?k5 ?kK ?kU ?kT ?kd ?ku ?_; (case k1 => k_asm); (case k2 => k_asm); (case k3 => k_asm); (case k4 => k_asm); (case k5 => k_asm); (case kK => first | exact rfl | assumption); (case kU => first | exact PartOk.name (by with_reducible assumption) | exact PartOk.value (by with_reducible assumption)); (case kT => (try dsimp only); omega); (case kd => ktr_room); (case ku => ktr_units)); intro t9 h9 tk9 htk9 F9 N9; (try dsimp only); (try k_fold)))
set_option maxRecDepth 100000 in
set_option maxHeartbeats 8000000 in
theorem parse0 (w : World) (loose : List Str) (mean : ExcName → Option Value) (mg mb : Str → Option Value) (rd : Str → List Nat) (x : Str) (tx : Tok) (ps : List Str)
    (dp un : Nat) (gd : Option (List Code)) (cn : Str) (cs : Scope) (a : Addr) (ccd : Value) (cl : List (Str × Addr)) (outer : List Env) (A₀ : Around) (base h₀ : Heap) (L : Addr) (m : Str → Option Value) (news : List (Addr × Obj)) (s : Shared) (Q E : Value → Shared → Prop)
    (hxl : x.length + 2 ≤ sizeLine) (hsp : Txt.split x (Str.ofString "&") = ps) (hpn : (ps.map Dat.str).length ≤ 4096) (hps : ∀ d ∈ ps.map Dat.str, ∃ p, d = Dat.str p ∧ PartOk rd p)
    (B : Below A₀ base outer h₀) (F : Fr h₀ L s.heap m) (X : (Mine.hd.heap_39 w.params).In h₀) (N : News h₀ L s.heap news) (T : Top Mine.hd.view_39 loose mean mg mb h₀) (hk : cs.kind = .function)
    (hd : dp + 2 < recursionLimit) (hu : un + 16 < cLine)
    (ret : ∀ r us nn tl h' tk', Fr h₀ L h' m → News h₀ L h' ((r, listOf us.toArray nn) :: (news ++ tl)) → DatAll (news ++ tl) us (rowsOf false rd (ps.map Dat.str)) → Q (.ref r) { s with heap := h', toks := tk' }) :
    wpAny (model Challenge.rw_ep5034_01.row.prog w) (ktrTop dp un gd cn cs L a ccd cl outer) (call (.ref 29) [.str x tx]) Q E s := by
  w_top off
  k_with_none
  revert X; k_fill; intro X
  refine wpAny_call ?_
  k_dflt (refine' code_def ?k1 ?k2 ?k3 ?k4 ?k5 ?kA ?kF ?kK ?k6 ?k7 ?k8 ?k9 ?kB ?_ ?c2 ?c3 ?c4 ?c5; (case kA => exact rfl); (case kF => exact rfl); (case kK => assumption); (case k1 => k_asm); (case k2 => k_asm); (case k3 => k_asm); (case k4 => k_asm); (case k5 => k_asm); (case k6 => k_is); (case k7 => k_is); (case k8 => ktr_room); (case k9 => first | exact BindsTo.of_eq rfl | exact binds_K (by k_in) rfl (by k_is) rfl rfl rfl); (case c5 => decide); (case kB => exact locs rfl); (case c2 => exact rfl); (case c3 => exact rfl); (case c4 => exact rfl); k_whole; intro g' L' h' FG' F' N' B' X' T'; (try dsimp only); (try k_lift B'); (try k_fold))
  k_with "pyIter ref" => k_dat (fun (pre : List Dat) out => out = rowsOf false rd pre ∧ out.length ≤ pre.length) "rows*"
  k_with "state" => first
    | exact rows_pair (rows_skip0 (by with_reducible assumption))
    | exact rows_pair (rows_skip1 (by with_reducible assumption))
    | exact rows_pair (rows_add (by with_reducible assumption) (by with_reducible assumption))
    | exact rows_pair (rows_keep (by with_reducible assumption))
    | exact rows_pair (rfl)
  k_steps
  exact parse_end ret (by with_reducible assumption) (by with_reducible assumption) (by with_reducible assumption)
set_option maxRecDepth 100000 in
set_option maxHeartbeats 8000000 in
theorem parse1 (w : World) (loose : List Str) (mean : ExcName → Option Value) (mg mb : Str → Option Value) (rd : Str → List Nat) (x : Str) (tx : Tok) (ps : List Str)
    (dp un : Nat) (gd : Option (List Code)) (cn : Str) (cs : Scope) (a : Addr) (ccd : Value) (cl : List (Str × Addr)) (outer : List Env) (A₀ : Around) (base h₀ : Heap) (L : Addr) (m : Str → Option Value) (news : List (Addr × Obj)) (s : Shared) (Q E : Value → Shared → Prop)
    (hxl : x.length + 2 ≤ sizeLine) (hsp : Txt.split x (Str.ofString "&") = ps) (hpn : (ps.map Dat.str).length ≤ 4096) (hps : ∀ d ∈ ps.map Dat.str, ∃ p, d = Dat.str p ∧ PartOk rd p)
    (B : Below A₀ base outer h₀) (F : Fr h₀ L s.heap m) (X : (Mine.hd.heap_39 w.params).In h₀) (N : News h₀ L s.heap news) (T : Top Mine.hd.view_39 loose mean mg mb h₀) (hk : cs.kind = .function)
    (hd : dp + 2 < recursionLimit) (hu : un + 16 < cLine)
    (ret : ∀ r us nn tl h' tk', Fr h₀ L h' m → News h₀ L h' ((r, listOf us.toArray nn) :: (news ++ tl)) → DatAll (news ++ tl) us (rowsOf true rd (ps.map Dat.str)) → Q (.ref r) { s with heap := h', toks := tk' }) :
    wpAny (model Challenge.rw_ep5034_01.row.prog w) (ktrTop dp un gd cn cs L a ccd cl outer) (call (.ref 29) [.str x tx] [(Str.ofString "keep_blank_values", .bool true)]) Q E s := by
  w_top off
  k_with_none
  revert X; k_fill; intro X
  refine wpAny_call ?_
  k_dflt (refine' code_def ?k1 ?k2 ?k3 ?k4 ?k5 ?kA ?kF ?kK ?k6 ?k7 ?k8 ?k9 ?kB ?_ ?c2 ?c3 ?c4 ?c5; (case kA => exact rfl); (case kF => exact rfl); (case kK => assumption); (case k1 => k_asm); (case k2 => k_asm); (case k3 => k_asm); (case k4 => k_asm); (case k5 => k_asm); (case k6 => k_is); (case k7 => k_is); (case k8 => ktr_room); (case k9 => first | exact BindsTo.of_eq rfl | exact binds_K (by k_in) rfl (by k_is) rfl rfl rfl); (case c5 => decide); (case kB => exact locs rfl); (case c2 => exact rfl); (case c3 => exact rfl); (case c4 => exact rfl); k_whole; intro g' L' h' FG' F' N' B' X' T'; (try dsimp only); (try k_lift B'); (try k_fold))
  k_with "pyIter ref" => k_dat (fun (pre : List Dat) out => out = rowsOf true rd pre ∧ out.length ≤ pre.length) "rows*"
  k_with "state" => first
    | exact rows_pair (rows_skip0 (by with_reducible assumption))
    | exact rows_pair (rows_skip1 (by with_reducible assumption))
    | exact rows_pair (rows_add (by with_reducible assumption) (by with_reducible assumption))
    | exact rows_pair (rows_keep (by with_reducible assumption))
    | exact rows_pair (rfl)
  k_steps
  exact parse_end ret (by with_reducible assumption) (by with_reducible assumption) (by with_reducible assumption)
end
end Mine
end
section
open PySem PySem.W PyProof.Rows PySem.Spec PySem.Calls
namespace Mine
/-- the law's whole pieces and half pieces: as written, as meant -/
def wholeL : List (Str × Str) := [(Str.ofString "a", Str.ofString "a"), (Str.ofString "b", Str.ofString "b"), (Str.ofString "+", Str.ofString " "), (Str.ofString "%20", Str.ofString " "), (Str.ofString "%2B", Str.ofString "+"),
  (Str.ofString "%26", Str.ofString "&"), (Str.ofString "%3D", Str.ofString "="), (Str.ofString "%25", Str.ofString "%"), (Str.ofString "%2541", Str.ofString "%41"), (Str.ofString "%C3%A9", Str.ofString "é"), (Str.ofString "%e2%82%ac", Str.ofString "€"),
  (Str.ofString "%F0%9F%98%80", Str.ofString "😀"), (Str.ofString "%0A", Str.ofString "\n"), (Str.ofString "", Str.ofString "")]
def halfL : List (Str × Str) := [(Str.ofString "", Str.ofString ""), (Str.ofString "", Str.ofString ""), (Str.ofString "%", Str.ofString "%"), (Str.ofString "%4", Str.ofString "%4"), (Str.ofString "%zz", Str.ofString "%zz"), (Str.ofString "%4z", Str.ofString "%4z")]
def wT (k : Int) : Str × Str := wholeL.getD k.toNat (Str.ofString "", Str.ofString "")
def hT (k : Int) : Str × Str := halfL.getD k.toNat (Str.ofString "", Str.ofString "")
def PairAt (K : Frag) (a : Addr) (p : Str × Str) : Prop := ∃ t1 t2, K.lookup a = some { cls := .type "tuple", data := .seq #[.str p.1 t1, .str p.2 t2] }
theorem whole_at (P : Params) : ∀ j : Nat, j < 14 → PairAt (Mine.hd.heap_39 P) (30 + j) (wholeL.getD j (Str.ofString "", Str.ofString ""))
  | 0, _ => ⟨_, _, rfl⟩ | 1, _ => ⟨_, _, rfl⟩ | 2, _ => ⟨_, _, rfl⟩ | 3, _ => ⟨_, _, rfl⟩ | 4, _ => ⟨_, _, rfl⟩ | 5, _ => ⟨_, _, rfl⟩ | 6, _ => ⟨_, _, rfl⟩
  | 7, _ => ⟨_, _, rfl⟩ | 8, _ => ⟨_, _, rfl⟩ | 9, _ => ⟨_, _, rfl⟩ | 10, _ => ⟨_, _, rfl⟩ | 11, _ => ⟨_, _, rfl⟩ | 12, _ => ⟨_, _, rfl⟩ | 13, _ => ⟨_, _, rfl⟩
  | n + 14, h => absurd h (by omega)
theorem half_at (P : Params) : ∀ j : Nat, j < 6 → PairAt (Mine.hd.heap_39 P) (45 + j) (halfL.getD j (Str.ofString "", Str.ofString ""))
  | 0, _ => ⟨_, _, rfl⟩ | 1, _ => ⟨_, _, rfl⟩ | 2, _ => ⟨_, _, rfl⟩ | 3, _ => ⟨_, _, rfl⟩ | 4, _ => ⟨_, _, rfl⟩ | 5, _ => ⟨_, _, rfl⟩
  | n + 6, h => absurd h (by omega)
theorem whole_tab (P : Params) : (Mine.hd.heap_39 P).lookup 44 = some { cls := .type "tuple", data := .seq #[.ref 30, .ref 31, .ref 32, .ref 33, .ref 34, .ref 35, .ref 36, .ref 37, .ref 38, .ref 39, .ref 40, .ref 41, .ref 42, .ref 43] } := rfl
theorem half_tab (P : Params) : (Mine.hd.heap_39 P).lookup 51 = some { cls := .type "tuple", data := .seq #[.ref 45, .ref 46, .ref 47, .ref 48, .ref 49, .ref 50] } := rfl
theorem refs14 : ∀ j : Nat, j < 14 → ([.ref 30, .ref 31, .ref 32, .ref 33, .ref 34, .ref 35, .ref 36, .ref 37, .ref 38, .ref 39, .ref 40, .ref 41, .ref 42, .ref 43] : List Value)[j]? = some (.ref (30 + j))
  | 0, _ => rfl | 1, _ => rfl | 2, _ => rfl | 3, _ => rfl | 4, _ => rfl | 5, _ => rfl | 6, _ => rfl | 7, _ => rfl | 8, _ => rfl | 9, _ => rfl | 10, _ => rfl | 11, _ => rfl | 12, _ => rfl | 13, _ => rfl
  | n + 14, h => absurd h (by omega)
theorem refs6 : ∀ j : Nat, j < 6 → ([.ref 45, .ref 46, .ref 47, .ref 48, .ref 49, .ref 50] : List Value)[j]? = some (.ref (45 + j))
  | 0, _ => rfl | 1, _ => rfl | 2, _ => rfl | 3, _ => rfl | 4, _ => rfl | 5, _ => rfl
  | n + 6, h => absurd h (by omega)
theorem fmod_bd (y : Int) (n : Int) (hn : 0 < n) : 0 ≤ y.fmod n ∧ y.fmod n < n := by
  rw [Int.fmod_eq_emod_of_nonneg _ (Int.le_of_lt hn)]
  exact ⟨Int.emod_nonneg _ (by omega), Int.emod_lt_of_pos _ hn⟩
section
variable {prog : Program} {w : World} {A : Around} {E : Value → Shared → Prop} {Q : Value → Shared → Prop} {s : Shared} {value slice : Expr}
theorem tup_of {K : Frag} {a : Addr} {vs : List Value} (X : K.In s.heap) (h : K.lookup a = some { cls := .type "tuple", data := .seq vs.toArray }) : IsTup s.heap a vs.toArray := ⟨_, X _ _ h, rfl, _, rfl⟩
theorem idx_nat {k : Int} {n : Nat} (h0 : 0 ≤ k) (h1 : k < n) : seqIndex? k n = some k.toNat := by
  unfold seqIndex?
  have e1 : ¬ (k < 0) := by omega
  have e2 : ¬ (n : Int) ≤ k := by omega
  simp [e1, e2, h1]
theorem item_whole {y : Int} {u : Tok} (X : (Mine.hd.heap_39 w.params).In s.heap) (h : ∀ a, PairAt (Mine.hd.heap_39 w.params) a (wT (y.fmod 14)) → Q (.ref a) s)
    (hs : subscripted slice false (.ref 44) (.int (y.fmod 14) u) = operate [.ref 44, .int (y.fmod 14) u] (getItem (.ref 44) (.int (y.fmod 14) u)) := by with_unfolding_all rfl) :
    wpAny (model prog w) A (subscriptTail value slice (.ref 44) (.int (y.fmod 14) u)) Q E s := by
  obtain ⟨h0, h1⟩ := fmod_bd y 14 (by decide)
  generalize y.fmod 14 = k at h0 h1 h hs
  have hj : k.toNat < 14 := by omega
  exact item_tupleT (tup_of X (whole_tab _)) (by omega) (by omega) (idx_nat h0 h1) (refs14 _ hj) (h _ (whole_at _ _ hj)) hs
theorem item_half {y : Int} {u : Tok} (X : (Mine.hd.heap_39 w.params).In s.heap) (h : ∀ a, PairAt (Mine.hd.heap_39 w.params) a (hT (y.fmod 6)) → Q (.ref a) s)
    (hs : subscripted slice false (.ref 51) (.int (y.fmod 6) u) = operate [.ref 51, .int (y.fmod 6) u] (getItem (.ref 51) (.int (y.fmod 6) u)) := by with_unfolding_all rfl) :
    wpAny (model prog w) A (subscriptTail value slice (.ref 51) (.int (y.fmod 6) u)) Q E s := by
  obtain ⟨h0, h1⟩ := fmod_bd y 6 (by decide)
  generalize y.fmod 6 = k at h0 h1 h hs
  have hj : k.toNat < 6 := by omega
  exact item_tupleT (tup_of X (half_tab _)) (by omega) (by omega) (idx_nat h0 h1) (refs6 _ hj) (h _ (half_at _ _ hj)) hs
theorem item_pair0 {K : Frag} {a : Addr} {p : Str × Str} {u : Tok} (X : K.In s.heap) (P : PairAt K a p) (h : ∀ t, Q (.str p.1 t) s)
    (hs : subscripted slice false (.ref a) (.int 0 u) = operate [.ref a, .int 0 u] (getItem (.ref a) (.int 0 u)) := by with_unfolding_all rfl) :
    wpAny (model prog w) A (subscriptTail value slice (.ref a) (.int 0 u)) Q E s := by
  obtain ⟨t1, t2, e⟩ := P
  exact item_tupleT (tup_of X e) (by decide) (by decide) rfl rfl (h _) hs
theorem item_pair1 {K : Frag} {a : Addr} {p : Str × Str} {u : Tok} (X : K.In s.heap) (P : PairAt K a p) (h : ∀ t, Q (.str p.2 t) s)
    (hs : subscripted slice false (.ref a) (.int 1 u) = operate [.ref a, .int 1 u] (getItem (.ref a) (.int 1 u)) := by with_unfolding_all rfl) :
    wpAny (model prog w) A (subscriptTail value slice (.ref a) (.int 1 u)) Q E s := by
  obtain ⟨t1, t2, e⟩ := P
  exact item_tupleT (tup_of X e) (by decide) (by decide) rfl rfl (h _) hs
end
theorem getD_all {α : Type} {P : α → Prop} {l : List α} {d : α} (h : ∀ x ∈ l, P x) (hd : P d) (n : Nat) : P (l.getD n d) := by
  rw [List.getD_eq_getElem?_getD]
  cases e : l[n]? with
  | none => exact hd
  | some x => exact h x (List.mem_of_getElem? e)
theorem wT_len (k : Int) : (wT k).1.length ≤ 12 ∧ (wT k).2.length ≤ 12 := getD_all (P := fun p : Str × Str => p.1.length ≤ 12 ∧ p.2.length ≤ 12) (by decide +kernel) (by decide +kernel) _
theorem hT_len (k : Int) : (hT k).1.length ≤ 12 ∧ (hT k).2.length ≤ 12 := getD_all (P := fun p : Str × Str => p.1.length ≤ 12 ∧ p.2.length ≤ 12) (by decide +kernel) (by decide +kernel) _
def cutText (y : Int) : Str := (wT (y.fmod 14)).1 ++ (wT ((y.fdiv 14).fmod 14)).1 ++ (hT ((y.fdiv 196).fmod 6)).1
def cutSaid (y : Int) : Str := (wT (y.fmod 14)).2 ++ (wT ((y.fdiv 14).fmod 14)).2 ++ (hT ((y.fdiv 196).fmod 6)).2
section
variable {prog : Program} {w : World} {A : Around} {E : Value → Shared → Prop} {Q : Value → Shared → Prop} {s : Shared} {t u : Tok} {x y : Str} {a b c : Int}
theorem add_small (hx : x.length ≤ 4096) (hy : y.length ≤ 4096) (h : ∀ t' k, Q (.str (x ++ y) t') { s with toks := k }) : wpAny (model prog w) A (binaryOp .Add (.str x t) (.str y u)) Q E s :=
  SB.add h (by rw [sizeLine_eq]; omega)
theorem len_w1 : (wT a).1.length ≤ 4096 := by have := wT_len a; omega
theorem len_w2 : (wT a).2.length ≤ 4096 := by have := wT_len a; omega
theorem len_h1 : (hT a).1.length ≤ 4096 := by have := hT_len a; omega
theorem len_h2 : (hT a).2.length ≤ 4096 := by have := hT_len a; omega
theorem len_ww1 : ((wT a).1 ++ (wT b).1).length ≤ 4096 := by have := wT_len a; have := wT_len b; rw [Str.length_append]; omega
theorem len_ww2 : ((wT a).2 ++ (wT b).2).length ≤ 4096 := by have := wT_len a; have := wT_len b; rw [Str.length_append]; omega
end
theorem cutText_len (y : Int) : (cutText y).length ≤ 36 := by
  unfold cutText
  have h1 := wT_len (y.fmod 14)
  have h2 := wT_len ((y.fdiv 14).fmod 14)
  have h3 := hT_len ((y.fdiv 196).fmod 6)
  rw [Str.length_append, Str.length_append]
  omega
theorem cutSaid_len (y : Int) : (cutSaid y).length ≤ 36 := by
  unfold cutSaid
  have h1 := wT_len (y.fmod 14)
  have h2 := wT_len ((y.fdiv 14).fmod 14)
  have h3 := hT_len ((y.fdiv 196).fmod 6)
  rw [Str.length_append, Str.length_append]
  omega
end Mine
end
section
open PySem PySem.W PyProof.Rows PySem.Spec PySem.Calls
namespace Mine
abbrev pairObj (x y : Str) (ta tb : Tok) : Obj := { cls := .type "tuple", data := .seq [.str x ta, .str y tb].toArray }
theorem cut_end {h₀ h' : Heap} {L r : Addr} {d : Addr × Obj} {x y : Str} {ta tb : Tok} {tk' : Nat} {m : Str → Option Value} {news : List (Addr × Obj)} {s : Shared} {Q : Value → Shared → Prop}
    (ret : ∀ r ta tb h' tk', Fr h₀ L h' m → News h₀ L h' ((r, pairObj x y ta tb) :: news) → (∀ p ∈ news, p.1 < r) → Q (.ref r) { s with heap := h', toks := tk' })
    (F : Fr h₀ L h' m) (N : News h₀ L h' ((r, pairObj x y ta tb) :: d :: news)) (l : @LT.lt Nat _ d.1 r ∧ AllLt r news) : Q (.ref r) { s with heap := h', toks := tk' } :=
  ret r ta tb h' tk' F (fun p hp => N p ((List.mem_cons.mp hp).elim (fun e => List.mem_cons.mpr (.inl e)) fun e => List.mem_cons.mpr (.inr (List.mem_cons.mpr (.inr e))))) fun p hp => ktn_ltOf l.2 p hp
section
local macro_rules | `(tactic| walk_at "subscriptTail Name BinOp ref int") => `(tactic| (k_here; (with_reducible show wpAny _ _ (subscriptTail _ _ (Value.ref 44) _) _ _ _); k_dflt (refine item_whole (by k_in) ?_; intro aw7 hw7)))
local macro_rules | `(tactic| walk_at "subscriptTail Name BinOp ref int") => `(tactic| (k_here; (with_reducible show wpAny _ _ (subscriptTail _ _ (Value.ref 51) _) _ _ _); k_dflt (refine item_half (by k_in) ?_; intro aw7 hw7)))
local macro_rules | `(tactic| walk_at "subscriptTail Name Constant ref int") => `(tactic| (k_here; (with_reducible show wpAny _ _ (subscriptTail _ _ (Value.ref _) (Value.int 0 _)) _ _ _); k_dflt (refine item_pair0 (by k_in) (by with_reducible assumption) ?_; intro t7)))
local macro_rules | `(tactic| walk_at "subscriptTail Name Constant ref int") => `(tactic| (k_here; (with_reducible show wpAny _ _ (subscriptTail _ _ (Value.ref _) (Value.int 1 _)) _ _ _); k_dflt (refine item_pair1 (by k_in) (by with_reducible assumption) ?_; intro t7)))
local macro_rules | `(tactic| walk_at "binaryOp Add str str") => `(tactic| (k_here; (refine add_small (by first | exact len_w1 | exact len_w2 | exact len_ww1 | exact len_ww2) (by first | exact len_w1 | exact len_w2 | exact len_h1 | exact len_h2) ?_); intro t7 k7))
set_option maxRecDepth 100000 in
set_option maxHeartbeats 8000000 in
theorem cut (w : World) (loose : List Str) (mean : ExcName → Option Value) (mg mb : Str → Option Value) (y : Int) (ty : Tok)
    (dp un : Nat) (gd : Option (List Code)) (cn : Str) (cs : Scope) (a : Addr) (ccd : Value) (cl : List (Str × Addr)) (outer : List Env) (A₀ : Around) (base h₀ : Heap) (L : Addr) (m : Str → Option Value) (news : List (Addr × Obj)) (s : Shared) (Q E : Value → Shared → Prop)
    (B : Below A₀ base outer h₀) (F : Fr h₀ L s.heap m) (X : (Mine.hd.heap_39 w.params).In h₀) (N : News h₀ L s.heap news) (T : Top Mine.hd.view_39 loose mean mg mb h₀) (hk : cs.kind = .function)
    (hd : dp + 1 < recursionLimit) (hu : un + 8 < cLine)
    (ret : ∀ r ta tb h' tk', Fr h₀ L h' m → News h₀ L h' ((r, pairObj (cutText y) (cutSaid y) ta tb) :: news) → (∀ p ∈ news, p.1 < r) → Q (.ref r) { s with heap := h', toks := tk' }) :
    wpAny (model Challenge.rw_ep5034_01.row.prog w) (ktrTop dp un gd cn cs L a ccd cl outer) (call (.ref 58) [.int y ty]) Q E s := by
  w_top off
  k_with_none
  revert X; k_fill; intro X
  refine wpAny_call ?_
  k_dflt cell_enter
  k_steps
  unfold cutText cutSaid at ret
  exact cut_end ret (by with_reducible assumption) (by with_reducible assumption) (by with_reducible assumption)
end
end Mine
end
section
open PySem PySem.W PyProof.Rows PySem.Spec PySem.Calls
namespace Mine
theorem cut_use {w : World} {loose : List Str} {mean : ExcName → Option Value} {mg mb : Str → Option Value} {news : List (Addr × Obj)} {y : Int} {ty : Tok}
    {dp un : Nat} {gd : Option (List Code)} {cn : Str} {cs : Scope} {a : Addr} {ccd : Value} {cl : List (Str × Addr)} {outer : List Env} {A₀ : Around} {base h₀ : Heap} {L : Addr} {m : Str → Option Value} {s : Shared} {Q E : Value → Shared → Prop}
    (B : Below A₀ base outer h₀) (F : Fr h₀ L s.heap m) (X : (Mine.hd.heap_39 w.params).In h₀) (N : News h₀ L s.heap news) (T : Top Mine.hd.view_39 loose mean mg mb h₀) (hk : cs.kind = .function)
    (hd : dp + 1 < recursionLimit) (hu : un + 8 < cLine)
    (ret : ∀ r ta tb h' tk', Fr h₀ L h' m → News h₀ L h' ((r, pairObj (cutText y) (cutSaid y) ta tb) :: news) → (∀ p ∈ news, p.1 < r) → Q (.ref r) { s with heap := h', toks := tk' }) :
    wpAny (model Challenge.rw_ep5034_01.row.prog w) (ktrTop dp un gd cn cs L a ccd cl outer) (call (.ref 58) [.int y ty]) Q E s :=
  cut w loose mean mg mb y ty dp un gd cn cs a ccd cl outer A₀ base h₀ L m news s Q E B F X N T hk hd hu ret
/-- what one part of the law is: its text, the pair that it lays, whether it has signs behind its equals sign -/
def valText (y : Int) : Str := if y.fmod 3 = 2 then Str.ofString "=" ++ cutText (y * 7 + 3) else cutText (y * 7 + 3)
def valSaid (y : Int) : Str := if y.fmod 3 = 2 then Str.ofString "=" ++ cutSaid (y * 7 + 3) else cutSaid (y * 7 + 3)
structure PartV where
  text : Str
  said : Str
  meant : Str
  flag : Bool
def partK (k y : Int) : PartV :=
  if k = 0 then ⟨cutText y ++ Str.ofString "=" ++ valText y, cutSaid y, valSaid y, valText y != Str.ofString ""⟩
  else if k = 1 then ⟨cutText y, cutSaid y, Str.ofString "", false⟩
  else if k = 2 then ⟨Str.ofString "", Str.ofString "", Str.ofString "", false⟩
  else if k = 3 then ⟨cutText y ++ Str.ofString "=", cutSaid y, Str.ofString "", false⟩
  else ⟨Str.ofString "=" ++ valText y, Str.ofString "", valSaid y, valText y != Str.ofString ""⟩
def partOf (x : Int) : PartV := partK (x.fmod 5) (x.fdiv 5)
def PartV.dat (p : PartV) : Dat := .tuple [.str p.text, .tuple [.str p.said, .str p.meant], .bool p.flag]
abbrev tripObj (x : Str) (q : Addr) (b : Bool) (t : Tok) : Obj := { cls := .type "tuple", data := .seq [.str x t, .ref q, .bool b].toArray }
theorem part_end {h₀ h' : Heap} {L r q : Addr} {pv : PartV} {x y z : Str} {b : Bool} {t t1 t2 : Tok} {tk' : Nat} {m : Str → Option Value} {news all : List (Addr × Obj)} {s : Shared} {Q : Value → Shared → Prop}
    (ret : ∀ r tl h' tk', Fr h₀ L h' m → News h₀ L h' (news ++ tl) → (∀ q ∈ news, ∀ p ∈ tl, q.1 < p.1) → DatIn tl (.ref r) pv.dat → Q (.ref r) { s with heap := h', toks := tk' })
    (hx : pv = ⟨x, y, z, b⟩) (F : Fr h₀ L h' m) (N : News h₀ L h' all) (hr : (r, tripObj x q b t) ∈ all) (hq : (q, pairObj y z t1 t2) ∈ all) (hn : ∀ p ∈ news, p ∈ all) (lr : AllLt r news) (lq : AllLt q news) :
    Q (.ref r) { s with heap := h', toks := tk' } := by
  subst hx
  refine ret r [(r, tripObj x q b t), (q, pairObj y z t1 t2)] h' tk' F (fun p hp => ?_) (fun a ha p hp => ?_) ?_
  · rcases List.mem_append.mp hp with e | e
    · exact N p (hn p e)
    · rcases List.mem_cons.mp e with rfl | e
      · exact N _ hr
      · rw [List.mem_singleton.mp e]; exact N _ hq
  · rcases List.mem_cons.mp hp with rfl | e
    · exact ktn_ltOf lr a ha
    · rw [List.mem_singleton.mp e]; exact ktn_ltOf lq a ha
  · refine DatIn.tuple (.head _) (.cons (.str _ _) (.cons ?_ (.cons (.bool _) .nil)))
    exact DatIn.tuple (.tail _ (.head _)) (.cons (.str _ _) (.cons (.str _ _) .nil))
theorem sm_T {y : Int} : (cutText y).length ≤ 4096 := by have := cutText_len y; omega
theorem sm_S {y : Int} : (cutSaid y).length ≤ 4096 := by have := cutSaid_len y; omega
theorem sm_e : (Str.ofString "=").length ≤ 4096 := by decide +kernel
theorem eq_len : (Str.ofString "=").length = 1 := by decide +kernel
theorem sm_eT {y : Int} : (Str.ofString "=" ++ cutText y).length ≤ 4096 := by have := cutText_len y; rw [Str.length_append, eq_len]; omega
theorem sm_Te {y : Int} : (cutText y ++ Str.ofString "=").length ≤ 4096 := by have := cutText_len y; rw [Str.length_append, eq_len]; omega
section
variable {x : Int}
theorem val_y (h : (x.fdiv 5).fmod 3 = 2) : valText (x.fdiv 5) = Str.ofString "=" ++ cutText (x.fdiv 5 * 7 + 3) ∧ valSaid (x.fdiv 5) = Str.ofString "=" ++ cutSaid (x.fdiv 5 * 7 + 3) := ⟨if_pos h, if_pos h⟩
theorem val_n (h : (x.fdiv 5).fmod 3 ≠ 2) : valText (x.fdiv 5) = cutText (x.fdiv 5 * 7 + 3) ∧ valSaid (x.fdiv 5) = cutSaid (x.fdiv 5 * 7 + 3) := ⟨if_neg h, if_neg h⟩
theorem p0y (h : (x.fdiv 5).fmod 3 = 2) (h0 : x.fmod 5 = 0) : partOf x = ⟨cutText (x.fdiv 5) ++ Str.ofString "=" ++ (Str.ofString "=" ++ cutText (x.fdiv 5 * 7 + 3)), cutSaid (x.fdiv 5), (Str.ofString "=" ++ cutSaid (x.fdiv 5 * 7 + 3)), (Str.ofString "=" ++ cutText (x.fdiv 5 * 7 + 3)) != Str.ofString ""⟩ := by
  unfold partOf partK
  rw [if_pos h0, (val_y h).1, (val_y h).2]
theorem p4y (h : (x.fdiv 5).fmod 3 = 2) (h0 : x.fmod 5 ≠ 0) (h1 : x.fmod 5 ≠ 1) (h2 : x.fmod 5 ≠ 2) (h3 : x.fmod 5 ≠ 3) : partOf x = ⟨Str.ofString "=" ++ (Str.ofString "=" ++ cutText (x.fdiv 5 * 7 + 3)), Str.ofString "", (Str.ofString "=" ++ cutSaid (x.fdiv 5 * 7 + 3)), (Str.ofString "=" ++ cutText (x.fdiv 5 * 7 + 3)) != Str.ofString ""⟩ := by
  unfold partOf partK
  rw [if_neg h0, if_neg h1, if_neg h2, if_neg h3, (val_y h).1, (val_y h).2]
theorem p0n (h : (x.fdiv 5).fmod 3 ≠ 2) (h0 : x.fmod 5 = 0) : partOf x = ⟨cutText (x.fdiv 5) ++ Str.ofString "=" ++ cutText (x.fdiv 5 * 7 + 3), cutSaid (x.fdiv 5), cutSaid (x.fdiv 5 * 7 + 3), cutText (x.fdiv 5 * 7 + 3) != Str.ofString ""⟩ := by
  unfold partOf partK
  rw [if_pos h0, (val_n h).1, (val_n h).2]
theorem p4n (h : (x.fdiv 5).fmod 3 ≠ 2) (h0 : x.fmod 5 ≠ 0) (h1 : x.fmod 5 ≠ 1) (h2 : x.fmod 5 ≠ 2) (h3 : x.fmod 5 ≠ 3) : partOf x = ⟨Str.ofString "=" ++ cutText (x.fdiv 5 * 7 + 3), Str.ofString "", cutSaid (x.fdiv 5 * 7 + 3), cutText (x.fdiv 5 * 7 + 3) != Str.ofString ""⟩ := by
  unfold partOf partK
  rw [if_neg h0, if_neg h1, if_neg h2, if_neg h3, (val_n h).1, (val_n h).2]
theorem p1 (h0 : x.fmod 5 ≠ 0) (h1 : x.fmod 5 = 1) : partOf x = ⟨cutText (x.fdiv 5), cutSaid (x.fdiv 5), Str.ofString "", false⟩ := by
  unfold partOf partK
  rw [if_neg h0, if_pos h1]
theorem p2 (h0 : x.fmod 5 ≠ 0) (h1 : x.fmod 5 ≠ 1) (h2 : x.fmod 5 = 2) : partOf x = ⟨Str.ofString "", Str.ofString "", Str.ofString "", false⟩ := by
  unfold partOf partK
  rw [if_neg h0, if_neg h1, if_pos h2]
theorem p3 (h0 : x.fmod 5 ≠ 0) (h1 : x.fmod 5 ≠ 1) (h2 : x.fmod 5 ≠ 2) (h3 : x.fmod 5 = 3) : partOf x = ⟨cutText (x.fdiv 5) ++ Str.ofString "=", cutSaid (x.fdiv 5), Str.ofString "", false⟩ := by
  unfold partOf partK
  rw [if_neg h0, if_neg h1, if_neg h2, if_pos h3]
end
section
local macro_rules | `(tactic| walk_at "binaryOp Add str str") => `(tactic| (k_here; (refine add_small (by first | exact sm_T | exact sm_S | exact sm_e | exact sm_eT | exact sm_Te) (by first | exact sm_T | exact sm_S | exact sm_e | exact sm_eT | exact sm_Te) ?_); intro t7 k7))
local macro_rules | `(tactic| walk_at "call ref") => `(tactic| (k_here; (with_reducible show wpAny _ _ (call (Value.ref 58) [Value.int _ _]) _ _ _); k_dflt (refine' cut_use ?k1 ?k2 ?k3 ?k4 ?k5 ?kK ?kd ?ku ?_; (case k1 => k_asm); (case k2 => k_asm); (case k3 => k_asm); (case k4 => k_asm); (case k5 => k_asm); (case kK => first | exact rfl | assumption); (case kd => ktr_room); (case ku => ktr_units)); intro D' ta7 tb7 h' tk' F' N' l1; (try k_lt l1); (try dsimp only); (try k_fold)))
set_option maxRecDepth 100000 in
set_option maxHeartbeats 8000000 in
theorem part (w : World) (loose : List Str) (mean : ExcName → Option Value) (mg mb : Str → Option Value) (x : Int) (tx : Tok)
    (dp un : Nat) (gd : Option (List Code)) (cn : Str) (cs : Scope) (a : Addr) (ccd : Value) (cl : List (Str × Addr)) (outer : List Env) (A₀ : Around) (base h₀ : Heap) (L : Addr) (m : Str → Option Value) (news : List (Addr × Obj)) (s : Shared) (Q E : Value → Shared → Prop)
    (B : Below A₀ base outer h₀) (F : Fr h₀ L s.heap m) (X : (Mine.hd.heap_39 w.params).In h₀) (N : News h₀ L s.heap news) (T : Top Mine.hd.view_39 loose mean mg mb h₀) (hk : cs.kind = .function)
    (hd : dp + 2 < recursionLimit) (hu : un + 16 < cLine)
    (ret : ∀ r tl h' tk', Fr h₀ L h' m → News h₀ L h' (news ++ tl) → (∀ q ∈ news, ∀ p ∈ tl, q.1 < p.1) → DatIn tl (.ref r) (partOf x).dat → Q (.ref r) { s with heap := h', toks := tk' }) :
    wpAny (model Challenge.rw_ep5034_01.row.prog w) (ktrTop dp un gd cn cs L a ccd cl outer) (call (.ref 65) [.int x tx]) Q E s := by
  w_top off
  k_with_none
  revert X; k_fill; intro X
  refine wpAny_call ?_
  k_dflt cell_enter
  k_steps
  all_goals first
    | exact part_end ret (by first | exact p0y (by with_reducible assumption) (by with_reducible assumption) | exact p0n (by with_reducible assumption) (by with_reducible assumption) | exact p1 (by with_reducible assumption) (by with_reducible assumption) | exact p2 (by with_reducible assumption) (by with_reducible assumption) (by with_reducible assumption) | exact p3 (by with_reducible assumption) (by with_reducible assumption) (by with_reducible assumption) (by with_reducible assumption) | exact p4y (by with_reducible assumption) (by with_reducible assumption) (by with_reducible assumption) (by with_reducible assumption) (by with_reducible assumption) | exact p4n (by with_reducible assumption) (by with_reducible assumption) (by with_reducible assumption) (by with_reducible assumption) (by with_reducible assumption)) (by with_reducible assumption) (by with_reducible assumption) (by k_mem) (by k_mem) (by intro p hp; repeat (first | assumption | refine List.mem_cons_of_mem _ ?_)) (by first | exact And.right (by with_reducible assumption) | exact And.right (And.right (by with_reducible assumption)) | exact And.right (And.right (And.right (by with_reducible assumption))) | exact And.right (And.right (And.right (And.right (by with_reducible assumption)))) | exact And.right (And.right (And.right (And.right (And.right (by with_reducible assumption)))))) (by first | exact And.right (by with_reducible assumption) | exact And.right (And.right (by with_reducible assumption)) | exact And.right (And.right (And.right (by with_reducible assumption))) | exact And.right (And.right (And.right (And.right (by with_reducible assumption)))))

end
end Mine
end
section
open PySem PySem.W PyProof.Rows PySem.Spec PySem.Calls PyProof.Rows.LCg PyProof.Rows.LCt
namespace Mine
abbrev Three (I C D : Addr) (oI oC oD : Obj) (news : List (Addr × Obj)) : List (Addr × Obj) := (I, oI) :: (C, oC) :: (D, oD) :: news
theorem mem3 {I C D : Addr} {oI oC oD : Obj} {news tl : List (Addr × Obj)} : ∀ p ∈ Three I C D oI oC oD (news ++ tl), p ∈ Three I C D oI oC oD news ++ tl := fun _ h => h
section
variable {prog : Program} {w : World} {A : Around} {h₀ : Heap} {L : Addr} {m : Str → Option Value} {env : Env} {elt ct : Expr} {x : Str} {scope : Scope} {cl : List (Str × Addr)} {s : Shared} {S : List (Addr × Obj) → Prop} {Fin : List Value → List (Addr × Obj) → Prop}

theorem off_tl {I C D : Addr} {oI oC oD : Obj} {news tl : List (Addr × Obj)} (off : Off3 I C D news) (lt : ∀ q ∈ Three I C D oI oC oD news, ∀ p ∈ tl, q.1 < p.1) : Off3 I C D (news ++ tl) := by
  refine Off3.of fun p hp => ?_
  rcases List.mem_append.mp hp with h | h
  · exact off.mem p h
  · exact ⟨Nat.ne_of_gt (lt (I, oI) (.head _) p h), Nat.ne_of_gt (lt (C, oC) (.tail _ (.head _)) p h), Nat.ne_of_gt (lt (D, oD) (.tail _ (.tail _ (.head _))) p h)⟩

/-- a comprehension over ints whose element makes a datum of its own -/
theorem comp_made {its : Array Value} {xs : List Int} (f : Int → Dat) (hxs : IntsAre its.toList xs) (base : List (Addr × Obj)) (hS : ∀ news, (∀ p ∈ base, p ∈ news) → S news)
    (helt : ∀ (i : Int) t I oI C oC D oD m₂ h tk news (Q E' : Value → Shared → Prop), NsObj oC m₂ → m₂ x = some (.int i t) → Fr h₀ L h m → News h₀ L h (Three I C D oI oC oD news) →
      (∀ r tl h' tk', Fr h₀ L h' m → News h₀ L h' (Three I C D oI oC oD news ++ tl) → (∀ q ∈ Three I C D oI oC oD news, ∀ p ∈ tl, q.1 < p.1) → DatIn tl (.ref r) (f i) → Q (.ref r) { s with heap := h', toks := tk' }) →
      wpAny (model prog w) A (eval elt (compEnvC scope cl C env)) Q E' { s with heap := h, toks := tk })
    (hfin : ∀ ys news, (∀ p ∈ base, p ∈ news) → DatAll news ys (xs.map f) → Fin ys news) :
    ∀ k i ys news, i + k = its.size → (∀ p ∈ base, p ∈ news) → DatAll news ys ((xs.take i).map f) →
      CompRest prog w A h₀ L m env elt x scope cl s S (fun i v => its[i]? = some v) Fin k i ys news := by
  have hlen : its.size = xs.length := by have := hxs.length; simpa using this
  intro k
  induction k with
  | zero =>
    intro i ys news hi hb hd
    refine CompRest.zero (hfin ys news hb ?_)
    rwa [List.take_of_length_le (by omega)] at hd
  | succ k ih =>
    intro i ys news hi hb hd
    refine CompRest.succ fun v I oI C oC D m₂ h tk E' hv hC hx F N off ne => ?_
    have hilt : i < xs.length := by omega
    obtain ⟨t, hg⟩ := hxs.get i (xs[i]'hilt) (List.getElem?_eq_getElem hilt)
    have ev : v = .int (xs[i]'hilt) t := by
      have h1 : its[i]? = some (.int (xs[i]'hilt) t) := by simpa using hg
      rw [h1] at hv
      exact (Option.some.inj hv).symm
    subst ev
    refine helt _ t I oI C oC D (lst ys) m₂ h tk news _ E' hC hx F N fun r tl h' tk' F' N' lt hD => ?_
    refine CompEnd.intro F' N' (news ++ tl) (fun p hp => hp) (off_tl off lt) (hS _ fun p hp => List.mem_append.mpr (.inl (hb p hp))) ?_
    refine ih (i + 1) _ _ (by omega) (fun p hp => List.mem_append.mpr (.inl (hb p hp))) ?_
    have ht : xs.take (i + 1) = xs.take i ++ [xs[i]'hilt] := by rw [List.take_add_one, List.getElem?_eq_getElem hilt]; rfl
    rw [ht, List.map_append]
    exact (hd.mono fun p hp => List.mem_append.mpr (.inl hp)).append (.one (hD.mono fun p hp => List.mem_append.mpr (.inr hp)))

/-- a comprehension over data whose element is read out of the datum -/
theorem comp_read {its : Array Value} {ds : List Dat} (g : Dat → Dat) (base : List (Addr × Obj)) (hds : DatAll base its.toList ds) (hS : ∀ news, (∀ p ∈ base, p ∈ news) → S news)
    (helt : ∀ d v I oI C oC D oD m₂ h tk news (Q E' : Value → Shared → Prop), d ∈ ds → DatIn base v d → NsObj oC m₂ → m₂ x = some v → Fr h₀ L h m → News h₀ L h (Three I C D oI oC oD news) → (∀ p ∈ base, p ∈ news) →
      (∀ r h' tk', Fr h₀ L h' m → News h₀ L h' (Three I C D oI oC oD news) → DatIn base r (g d) → Q r { s with heap := h', toks := tk' }) →
      wpAny (model prog w) A (eval elt (compEnvC scope cl C env)) Q E' { s with heap := h, toks := tk })
    (hfin : ∀ ys news, (∀ p ∈ base, p ∈ news) → DatAll base ys (ds.map g) → Fin ys news) :
    ∀ k i ys news, i + k = its.size → (∀ p ∈ base, p ∈ news) → DatAll base ys ((ds.take i).map g) →
      CompRest prog w A h₀ L m env elt x scope cl s S (fun i v => its[i]? = some v) Fin k i ys news := by
  have hlen : its.size = ds.length := by have := hds.length; simpa using this
  intro k
  induction k with
  | zero =>
    intro i ys news hi hb hd
    refine CompRest.zero (hfin ys news hb ?_)
    rwa [List.take_of_length_le (by omega)] at hd
  | succ k ih =>
    intro i ys news hi hb hd
    refine CompRest.succ fun v I oI C oC D m₂ h tk E' hv hC hx F N off ne => ?_
    have hilt : i < ds.length := by omega
    obtain ⟨v', hv', hD⟩ := hds.get hilt
    have ev : v' = v := by
      have h1 : its[i]? = some v' := by simpa using hv'
      rw [h1] at hv
      exact Option.some.inj hv
    subst ev
    refine helt _ v' I oI C oC D (lst ys) m₂ h tk news _ E' (List.getElem_mem hilt) hD hC hx F N hb fun r h' tk' F' N' hD' => ?_
    refine CompEnd.intro F' N' news (fun p hp => hp) off (hS _ hb) ?_
    refine ih (i + 1) _ _ (by omega) hb ?_
    have ht : ds.take (i + 1) = ds.take i ++ [ds[i]'hilt] := by rw [List.take_add_one, List.getElem?_eq_getElem hilt]; rfl
    rw [ht, List.map_append]
    exact hd.append (.one hD')

/-- the same with one test -/
theorem comp_test {its : Array Value} {ds : List Dat} (g : Dat → Dat) (c : Dat → Bool) (base : List (Addr × Obj)) (hds : DatAll base its.toList ds) (hS : ∀ news, (∀ p ∈ base, p ∈ news) → S news)
    (htest : ∀ d v I oI C oC D oD m₂ h tk news (Q : Bool → Shared → Prop) (E' : Value → Shared → Prop), d ∈ ds → DatIn base v d → NsObj oC m₂ → m₂ x = some v → Fr h₀ L h m → News h₀ L h (Three I C D oI oC oD news) → (∀ p ∈ base, p ∈ news) →
      (∀ h' tk', Fr h₀ L h' m → News h₀ L h' (Three I C D oI oC oD news) → Q (c d) { s with heap := h', toks := tk' }) →
      wpAny (model prog w) A (isTrue ct (compEnvC scope cl C env) (eval ct (compEnvC scope cl C env))) Q E' { s with heap := h, toks := tk })
    (helt : ∀ d v I oI C oC D oD m₂ h tk news (Q E' : Value → Shared → Prop), d ∈ ds → DatIn base v d → NsObj oC m₂ → m₂ x = some v → Fr h₀ L h m → News h₀ L h (Three I C D oI oC oD news) → (∀ p ∈ base, p ∈ news) →
      (∀ r h' tk', Fr h₀ L h' m → News h₀ L h' (Three I C D oI oC oD news) → DatIn base r (g d) → Q r { s with heap := h', toks := tk' }) →
      wpAny (model prog w) A (eval elt (compEnvC scope cl C env)) Q E' { s with heap := h, toks := tk })
    (hfin : ∀ ys news, (∀ p ∈ base, p ∈ news) → DatAll base ys ((ds.filter c).map g) → Fin ys news) :
    ∀ k i ys news, i + k = its.size → (∀ p ∈ base, p ∈ news) → DatAll base ys (((ds.take i).filter c).map g) →
      CompRestT prog w A h₀ L m env ct elt x scope cl s S (fun i v => its[i]? = some v) Fin k i ys news := by
  have hlen : its.size = ds.length := by have := hds.length; simpa using this
  intro k
  induction k with
  | zero =>
    intro i ys news hi hb hd
    refine CompRestT.zero (hfin ys news hb ?_)
    rwa [List.take_of_length_le (by omega)] at hd
  | succ k ih =>
    intro i ys news hi hb hd
    refine CompRestT.succ fun v I oI C oC D m₂ h tk E' hv hC hx F N off ne => ?_
    have hilt : i < ds.length := by omega
    obtain ⟨v', hv', hD⟩ := hds.get hilt
    have ev : v' = v := by
      have h1 : its[i]? = some v' := by simpa using hv'
      rw [h1] at hv
      exact Option.some.inj hv
    subst ev
    have ht : ds.take (i + 1) = ds.take i ++ [ds[i]'hilt] := by rw [List.take_add_one, List.getElem?_eq_getElem hilt]; rfl
    refine htest _ v' I oI C oC D (lst ys) m₂ h tk news _ E' (List.getElem_mem hilt) hD hC hx F N hb fun h' tk' F' N' => ?_
    cases hc : c (ds[i]'hilt) with
    | true =>
      simp only [if_true]
      refine helt _ v' I oI C oC D (lst ys) m₂ h' tk' news _ E' (List.getElem_mem hilt) hD hC hx F' N' hb fun r h'' tk'' F'' N'' hD' => ?_
      refine CompEnd.intro F'' N'' news (fun p hp => hp) off (hS _ hb) ?_
      refine ih (i + 1) _ _ (by omega) hb ?_
      rw [ht, List.filter_append, List.filter_cons_of_pos hc, List.filter_nil, List.map_append]
      exact hd.append (.one hD')
    | false =>
      simp only [Bool.false_eq_true, if_false]
      refine CompEnd.intro F' N' news (fun p hp => hp) off (hS _ hb) ?_
      refine ih (i + 1) _ _ (by omega) hb ?_
      rw [ht, List.filter_append, List.filter_cons_of_neg (by rw [hc]; exact Bool.false_ne_true), List.filter_nil, List.append_nil]
      exact hd
end
end Mine
end
section
open PySem PySem.W PyProof.Rows PySem.Spec PySem.Calls
namespace Mine
theorem part_use {w : World} {loose : List Str} {mean : ExcName → Option Value} {mg mb : Str → Option Value} {news : List (Addr × Obj)} {x : Int} {tx : Tok}
    {dp un : Nat} {gd : Option (List Code)} {cn : Str} {cs : Scope} {a : Addr} {ccd : Value} {cl : List (Str × Addr)} {outer : List Env} {A₀ : Around} {base h₀ : Heap} {L : Addr} {m : Str → Option Value} {s : Shared} {Q E : Value → Shared → Prop}
    (B : Below A₀ base outer h₀) (F : Fr h₀ L s.heap m) (X : (Mine.hd.heap_39 w.params).In h₀) (N : News h₀ L s.heap news) (T : Top Mine.hd.view_39 loose mean mg mb h₀) (hk : cs.kind = .function)
    (hd : dp + 2 < recursionLimit) (hu : un + 16 < cLine)
    (ret : ∀ r tl h' tk', Fr h₀ L h' m → News h₀ L h' (news ++ tl) → (∀ q ∈ news, ∀ p ∈ tl, q.1 < p.1) → DatIn tl (.ref r) (partOf x).dat → Q (.ref r) { s with heap := h', toks := tk' }) :
    wpAny (model Challenge.rw_ep5034_01.row.prog w) (ktrTop dp un gd cn cs L a ccd cl outer) (call (.ref 65) [.int x tx]) Q E s :=
  part w loose mean mg mb x tx dp un gd cn cs a ccd cl outer A₀ base h₀ L m news s Q E B F X N T hk hd hu ret
theorem src_of {h₀ : Heap} {D : Addr} {its : Array Value} {k : Nat} {base : List (Addr × Obj)} (hm : (D, ({ cls := .type "list", data := .seq its k } : Obj)) ∈ base) : ∀ news, (∀ p ∈ base, p ∈ news) → LCg.SrcAt h₀ D its news :=
  fun _ hb => .inr ⟨_, hb _ hm, rfl, _, rfl⟩
theorem sub_use {l l' : List (Addr × Obj)} {q : Addr × Obj} (hs : ∀ p ∈ l, p ∈ l') (h : q ∈ l) : q ∈ l' := hs q h
theorem dat_up {n n' : List (Addr × Obj)} {vs : List Value} {ds : List Dat} (h : DatAll n vs ds) (hs : ∀ p ∈ n, p ∈ n') : DatAll n' vs ds := h.mono hs
def Wrap (P : Prop) : Prop := P
theorem wrap_in {P : Prop} (h : Wrap P) : P := h
def WrapT (P : Prop) : Prop := P
theorem wrapT_in {P : Prop} (h : WrapT P) : P := h
/-- a part's datum -/
abbrev partD (x : Int) : Dat := (partOf x).dat
def g0 : Dat → Dat
  | .tuple (d :: _) => d
  | d => d
def g1 : Dat → Dat
  | .tuple (_ :: d :: _) => d
  | d => d
def c0 : Dat → Bool
  | .tuple (.str x :: _) => x != Str.ofString ""
  | _ => false
def c2 : Dat → Bool
  | .tuple (_ :: _ :: .bool b :: _) => b
  | _ => false
abbrev tripN (x : Str) (q : Addr) (b : Bool) (t : Tok) (n : Nat) : Obj := { cls := .type "tuple", data := .seq [.str x t, .ref q, .bool b].toArray n }
theorem dat_inv {base : List (Addr × Obj)} {v : Value} {d : Dat} {xs : List Int} (hd : d ∈ xs.map partD) (h : DatIn base v d) :
    ∃ x, d = partD x ∧ ∃ a q t n, v = .ref a ∧ (a, tripN (partOf x).text q (partOf x).flag t n) ∈ base ∧ DatIn base (.ref q) (g1 (partD x)) := by
  obtain ⟨x, _, rfl⟩ := List.mem_map.mp hd
  refine ⟨x, rfl, ?_⟩
  have h' : DatIn base v (.tuple [.str (partOf x).text, .tuple [.str (partOf x).said, .str (partOf x).meant], .bool (partOf x).flag]) := h
  cases h' with
  | tuple hm hall =>
    cases hall with
    | cons e1 r1 =>
      cases e1
      cases r1 with
      | cons e2 r2 =>
        cases r2 with
        | cons e3 r3 =>
          cases e3
          cases r3
          cases e2 with
          | tuple hm2 hall2 => exact ⟨_, _, _, _, rfl, hm, .tuple hm2 hall2⟩
section
variable {prog : Program} {w : World} {A : Around} {E : Value → Shared → Prop} {Q : Value → Shared → Prop} {s : Shared} {h₀ : Heap} {L : Addr} {led : List (Addr × Obj)} {value slice : Expr} {u : Tok}
theorem item_t {a q : Addr} {x : Str} {b : Bool} {t : Tok} {n : Nat} {k : Int} {j : Nat} {v : Value} (N : News h₀ L s.heap led) (hm : (a, tripN x q b t n) ∈ led) (h0 : -(2 ^ 63) ≤ k) (h1 : k < 2 ^ 63) (hj : seqIndex? k 3 = some j) (hx : ([.str x t, .ref q, .bool b] : List Value)[j]? = some v) (h : Q v s)
    (hs : subscripted slice false (.ref a) (.int k u) = operate [.ref a, .int k u] (getItem (.ref a) (.int k u)) := by with_unfolding_all rfl) :
    wpAny (model prog w) A (subscriptTail value slice (.ref a) (.int k u)) Q E s :=
  item_tupleT (l := [.str x t, .ref q, .bool b]) ⟨_, (N _ hm).1, rfl, _, rfl⟩ h0 h1 hj hx h hs
theorem strs_inv {base : List (Addr × Obj)} : ∀ {vs : List Value} {texts : List Str}, DatAll base vs (texts.map Dat.str) → ∃ l : List (Str × Tok), vs = strValues l ∧ l.map (·.1) = texts
  | [], [], _ => ⟨[], rfl, rfl⟩
  | v :: vs, x :: texts, h => by
    rw [List.map_cons] at h
    cases h with
    | cons h r =>
      cases h with
      | str _ t =>
        obtain ⟨l, rfl, e⟩ := strs_inv r
        exact ⟨(x, t) :: l, rfl, by rw [List.map_cons, e]⟩
  | [], _ :: _, h => by rw [List.map_cons] at h; cases h
  | _ :: _, [], h => by rw [List.map_nil] at h; cases h
def textsOf (xs : List Int) : List Str := xs.map fun x => (partOf x).text
def textOf (xs : List Int) : Str := Txt.join (Str.ofString "&") (textsOf xs)
theorem texts_eq (xs : List Int) : (xs.map partD).map g0 = (textsOf xs).map Dat.str := by
  unfold textsOf
  rw [List.map_map, List.map_map]
  rfl
theorem my_join {base : List (Addr × Obj)} {D : Addr} {ys : List Value} {xs : List Int} {t : Tok} {k : Nat} (N : News h₀ L s.heap led) (hm : (D, ({ cls := .type "list", data := .seq ys.toArray k } : Obj)) ∈ led) (hd : DatAll base ys ((xs.map partD).map g0)) (hok : JoinOk (Str.ofString "&") (textsOf xs) = true)
    (h : ∀ t' k, Q (.str (textOf xs) t') { s with toks := k }) : wpAny (model prog w) A (call (.builtin "str.join") [.str (Str.ofString "&") t, .ref D]) Q E s := by
  rw [texts_eq] at hd
  obtain ⟨l, rfl, e⟩ := strs_inv hd
  exact SC.join ⟨_, (N _ hm).1, rfl, _, rfl⟩ e hok h
open Classical in
theorem my_eq {a b : Addr} {n₁ n₂ : List (Addr × Obj)} {xs ys : List Value} {ka kb : Nat} {ds es : List Dat} (N : News h₀ L s.heap led) (ma : (a, listOf xs.toArray ka) ∈ led) (Da : DatAll n₁ xs ds) (sa : ∀ p ∈ n₁, p ∈ led)
    (mb : (b, listOf ys.toArray kb) ∈ led) (Db : DatAll n₂ ys es) (sb : ∀ p ∈ n₂, p ∈ led) (ha : ∀ d ∈ ds, kqdOk 8 d = true) (he : ds = es) (hu : A.units + 64 < cLine) (h : Q (.bool true) s) :
    wpAny (model prog w) A (compareOp .Eq (.ref a) (.ref b)) Q E s :=
  kqd_eq N ma rfl rfl Da sa mb rfl rfl Db sb ha (he ▸ ha) hu ((decide_eq_true he).symm ▸ h)
end
end Mine
end
section
open PySem PySem.W PyProof.Rows PySem.Spec PySem.Calls
namespace Mine
open PySem.Builtin PySem.Builtin.Str PySem.StrLaws
theorem str_ext {x y : PySem.Str} (h : x.cps.toList = y.cps.toList) : x = y := by
  obtain ⟨⟨a⟩⟩ := x
  obtain ⟨⟨b⟩⟩ := y
  have : a = b := h
  rw [this]
theorem toList_app (x y : PySem.Str) : (x ++ y).cps.toList = x.cps.toList ++ y.cps.toList := by rw [Str.cps_append, Array.toList_append]
theorem lit_eq : PySem.Str.ofString "=" = ⟨#[61]⟩ := by decide +kernel
theorem lit_amp : PySem.Str.ofString "&" = ⟨#[38]⟩ := by decide +kernel
theorem lit_plus : PySem.Str.ofString "+" = ⟨#[43]⟩ := by decide +kernel
theorem lit_sp : PySem.Str.ofString " " = ⟨#[32]⟩ := by decide +kernel
theorem lit_nil : PySem.Str.ofString "" = ⟨#[]⟩ := by decide +kernel
theorem len_list (x : PySem.Str) : x.length = x.cps.toList.length := by simp [Str.length]

/-! ## partition -/
theorem part_none {x : PySem.Str} (h : 61 ∉ x.cps.toList) : Txt.partition x (PySem.Str.ofString "=") = (x, Str.empty, Str.empty) := by
  rw [lit_eq]
  unfold Txt.partition
  rcases occ_head x ⟨#[61]⟩ 1 (Nat.le_refl _) with ⟨h0, _⟩ | ⟨i, r, h0, ha, _⟩
  · rw [h0]
  · exact absurd (List.mem_of_getElem? ((subAt_one x 61 i).mp ha)) h
theorem part_at {a b : PySem.Str} (h : 61 ∉ a.cps.toList) : Txt.partition (a ++ PySem.Str.ofString "=" ++ b) (PySem.Str.ofString "=") = (a, PySem.Str.ofString "=", b) := by
  have hl : (a ++ PySem.Str.ofString "=" ++ b).cps.toList = a.cps.toList ++ 61 :: b.cps.toList := by
    rw [toList_app, toList_app, lit_eq, List.append_assoc]; rfl
  generalize hx : a ++ PySem.Str.ofString "=" ++ b = x at hl
  rw [lit_eq]
  unfold Txt.partition
  have hat : x.cps.toList[a.cps.toList.length]? = some 61 := by rw [hl]; simp
  rcases occ_head x ⟨#[61]⟩ 1 (Nat.le_refl _) with ⟨_, hn⟩ | ⟨i, r, h0, ha, hn⟩
  · exact absurd ((subAt_one x 61 _).mpr hat) (hn _)
  · rw [h0]
    have hi := (subAt_one x 61 i).mp ha
    have e : i = a.cps.toList.length := by
      rcases Nat.lt_trichotomy i a.cps.toList.length with q | q | q
      · rw [hl, List.getElem?_append_left q] at hi
        exact absurd (List.mem_of_getElem? hi) h
      · exact q
      · exact absurd ((subAt_one x 61 _).mpr hat) (hn _ q)
    subst e
    have hlen : x.length = a.cps.toList.length + 1 + b.cps.toList.length := by rw [len_list, hl]; simp; omega
    show (strSub x 0 _, _, strSub x _ x.length) = _
    have e1 : strSub x 0 a.cps.toList.length = a := str_ext (by rw [strSub_toList, hl]; simp)
    have e2 : strSub x (a.cps.toList.length + 1) x.length = b := str_ext (by
      rw [strSub_toList, hl, hlen]
      have : (a.cps.toList ++ 61 :: b.cps.toList).drop (a.cps.toList.length + 1) = b.cps.toList := by
        rw [List.drop_append]; simp
      rw [this, List.take_of_length_le (by omega)])
    rw [e1]
    show (a, _, strSub x (a.cps.toList.length + 1) x.length) = _
    rw [e2]
end Mine
end
section
open PySem PySem.W PyProof.Rows PySem.Spec PySem.Calls
namespace Mine
open PySem.Builtin PySem.Builtin.Str PySem.StrLaws
/-! ## replace of one sign by one sign -/
def plusL (l : List Nat) : List Nat := l.map fun c => if c = 43 then 32 else c
theorem plusL_append (a b : List Nat) : plusL (a ++ b) = plusL a ++ plusL b := List.map_append
theorem plusL_free {l : List Nat} (h : 43 ∉ l) : plusL l = l := by
  induction l with
  | nil => rfl
  | cons c r ih =>
    have h1 : c ≠ 43 := fun e => h (e ▸ List.mem_cons_self ..)
    have h2 : 43 ∉ r := fun e => h (List.mem_cons_of_mem _ e)
    show (if c = 43 then 32 else c) :: plusL r = _
    rw [if_neg h1, ih h2]
theorem plus_join : ∀ parts : List PySem.Str, (∀ p ∈ parts, 43 ∉ p.cps.toList) → plusL (Str.join ⟨#[43]⟩ parts).cps.toList = (Str.join ⟨#[32]⟩ parts).cps.toList
  | [], _ => rfl
  | [p], h => plusL_free (h p (List.mem_singleton.mpr rfl))
  | p :: q :: r, h => by
    have ih := plus_join (q :: r) fun a ha => h a (List.mem_cons_of_mem _ ha)
    show plusL (p ++ ⟨#[43]⟩ ++ Str.join ⟨#[43]⟩ (q :: r)).cps.toList = (p ++ ⟨#[32]⟩ ++ Str.join ⟨#[32]⟩ (q :: r)).cps.toList
    rw [toList_app, toList_app, toList_app, toList_app, plusL_append, plusL_append, ih, plusL_free (h p (List.mem_cons_self ..))]
    rfl
theorem plusTo_list (x : PySem.Str) : (plusTo x).cps.toList = plusL x.cps.toList := by
  show (Txt.replace x (PySem.Str.ofString "+") (PySem.Str.ofString " ")).cps.toList = _
  rw [lit_plus, lit_sp, replace_one, ← plus_join _ (split_free x 43), join_split]
theorem plusL_len (l : List Nat) : (plusL l).length = l.length := List.length_map _
theorem plusL_asc {l : List Nat} (h : ∀ c ∈ l, c < 128) : ∀ c ∈ plusL l, c < 128 := by
  intro c hc
  obtain ⟨d, hd, rfl⟩ := List.mem_map.mp hc
  have := h d hd
  split <;> omega

/-! ## split of a join -/
theorem uniq_list {c : Nat} {a b x y : List Nat} (ha : c ∉ a) (hb : c ∉ b) (h : a ++ c :: x = b ++ c :: y) : a = b ∧ x = y := by
  induction a generalizing b with
  | nil =>
    cases b with
    | nil => exact ⟨rfl, by simpa using h⟩
    | cons d b =>
      injection h with h1 h2
      exact absurd (h1 ▸ List.mem_cons_self ..) hb
  | cons d a ih =>
    cases b with
    | nil =>
      injection h with h1 h2
      exact absurd (h1 ▸ List.mem_cons_self ..) ha
    | cons e b =>
      injection h with h1 h2
      obtain ⟨i1, i2⟩ := ih (fun q => ha (List.mem_cons_of_mem _ q)) (fun q => hb (List.mem_cons_of_mem _ q)) h2
      exact ⟨by rw [h1, i1], i2⟩
theorem join_two (c : Nat) (p q : PySem.Str) (r : List PySem.Str) : (Str.join ⟨#[c]⟩ (p :: q :: r)).cps.toList = p.cps.toList ++ c :: (Str.join ⟨#[c]⟩ (q :: r)).cps.toList := by
  show (p ++ ⟨#[c]⟩ ++ Str.join ⟨#[c]⟩ (q :: r)).cps.toList = _
  rw [toList_app, toList_app, List.append_assoc]
  rfl
theorem join_uniq (c : Nat) : ∀ (ps qs : List PySem.Str), ps ≠ [] → qs ≠ [] → (∀ p ∈ ps, c ∉ p.cps.toList) → (∀ p ∈ qs, c ∉ p.cps.toList) → (Str.join ⟨#[c]⟩ ps).cps.toList = (Str.join ⟨#[c]⟩ qs).cps.toList → ps = qs
  | [], _, h, _, _, _, _ => absurd rfl h
  | _, [], _, h, _, _, _ => absurd rfl h
  | [p], [q], _, _, _, _, h => by rw [str_ext (show p.cps.toList = q.cps.toList from h)]
  | [p], q :: q2 :: qs, _, _, hp, _, h => by
    rw [join_two] at h
    have h' : p.cps.toList = q.cps.toList ++ c :: (Str.join ⟨#[c]⟩ (q2 :: qs)).cps.toList := h
    exact absurd (by rw [h']; simp) (hp p (List.mem_cons_self ..))
  | p :: p2 :: ps, [q], _, _, _, hq, h => by
    rw [join_two] at h
    have h' : p.cps.toList ++ c :: (Str.join ⟨#[c]⟩ (p2 :: ps)).cps.toList = q.cps.toList := h
    exact absurd (by rw [← h']; simp) (hq q (List.mem_cons_self ..))
  | p :: p2 :: ps, q :: q2 :: qs, _, _, hp, hq, h => by
    rw [join_two, join_two] at h
    obtain ⟨e1, e2⟩ := uniq_list (hp p (List.mem_cons_self ..)) (hq q (List.mem_cons_self ..)) h
    have ih := join_uniq c (p2 :: ps) (q2 :: qs) (List.cons_ne_nil _ _) (List.cons_ne_nil _ _) (fun a ha => hp a (List.mem_cons_of_mem _ ha)) (fun a ha => hq a (List.mem_cons_of_mem _ ha)) e2
    rw [str_ext e1, ih]
theorem split_ne (x y : PySem.Str) : Txt.split x y ≠ [] := by
  intro h
  have := split_pos x y
  rw [h] at this
  exact absurd this (by decide)
theorem split_join {ps : List PySem.Str} (hne : ps ≠ []) (hp : ∀ p ∈ ps, 38 ∉ p.cps.toList) : Txt.split (Txt.join (PySem.Str.ofString "&") ps) (PySem.Str.ofString "&") = ps := by
  rw [lit_amp]
  refine join_uniq 38 _ ps (split_ne _ _) hne (split_free _ 38) hp ?_
  rw [join_split]
  show (glued ⟨#[38]⟩ ps).cps.toList = _
  rw [glued_eq_join]
theorem join_len (B : Nat) : ∀ ps : List PySem.Str, (∀ p ∈ ps, p.length ≤ B) → (Str.join ⟨#[38]⟩ ps).length ≤ ps.length * (B + 1)
  | [], _ => Nat.zero_le _
  | [p], h => by
    have := h p (List.mem_cons_self ..)
    show p.length ≤ 1 * (B + 1)
    omega
  | p :: q :: r, h => by
    have ih := join_len B (q :: r) fun a ha => h a (List.mem_cons_of_mem _ ha)
    have hp := h p (List.mem_cons_self ..)
    rw [len_list] at ih ⊢
    rw [join_two, List.length_append, List.length_cons, ← len_list]
    rw [len_list] at hp ⊢
    simp only [List.length_cons] at ih ⊢
    rw [Nat.add_mul _ 1]
    omega
theorem foldl_len (B : Nat) : ∀ (ps : List PySem.Str) (n : Nat), (∀ p ∈ ps, p.length ≤ B) → ps.foldl (fun a p => a + p.length + 1) n ≤ n + ps.length * (B + 1)
  | [], n, _ => by simp
  | p :: r, n, h => by
    have ih := foldl_len B r (n + p.length + 1) fun a ha => h a (List.mem_cons_of_mem _ ha)
    have hp := h p (List.mem_cons_self ..)
    rw [List.foldl_cons, List.length_cons, Nat.add_mul _ 1]
    omega
theorem join_ok (B : Nat) {ps : List PySem.Str} (h : ∀ p ∈ ps, p.length ≤ B) (hs : ps.length * (B + 1) ≤ sizeLine) : JoinOk (PySem.Str.ofString "&") ps = true := by
  unfold JoinOk
  rw [lit_amp]
  have h1 := foldl_len B ps 0 h
  have e : ps.toArray.foldl (fun a p => a + p.length + (⟨#[38]⟩ : PySem.Str).length) 0 = ps.foldl (fun a p => a + p.length + 1) 0 := by
    rw [List.foldl_toArray]
    rfl
  unfold tooLong
  show (!(decide (_ > sizeLine))) = true
  rw [e]
  simp only [Bool.not_eq_true', decide_eq_false_iff_not]
  omega
end Mine
end
section
open PySem PySem.W PyProof.Rows PySem.Spec PySem.Calls
namespace Mine
/-- a piece that stands before anything: its octets, then the rest's -/
structure PieceOk (a m : List Nat) : Prop where
  reads : ∀ rest ds, U8 (octs (plusL rest)) ds → U8 (octs (plusL (a ++ rest))) (m ++ ds)
  signs : ∀ c ∈ a, c < 128 ∧ c ≠ 38 ∧ c ≠ 61
  meant : ∀ c ∈ m, c < 1114112
theorem esc_step {a b : Nat} {R : List Nat} {v : UInt8} (ha : isHex a = true) (hb : isHex b = true) (hv : (hexv a * 16 + hexv b).toUInt8 = v) : octs (37 :: a :: b :: R) = v :: octs R := by
  rw [octs_esc ha hb, hv]
def wholeN : List (List Nat × List Nat) := [([97], [97]), ([98], [98]), ([43], [32]), ([37, 50, 48], [32]), ([37, 50, 66], [43]), ([37, 50, 54], [38]), ([37, 51, 68], [61]), ([37, 50, 53], [37]), ([37, 50, 53, 52, 49], [37, 52, 49]),
  ([37, 67, 51, 37, 65, 57], [233]), ([37, 101, 50, 37, 56, 50, 37, 97, 99], [8364]), ([37, 70, 48, 37, 57, 70, 37, 57, 56, 37, 56, 48], [128512]), ([37, 48, 65], [10]), ([], [])]
def halfN : List (List Nat × List Nat) := [([], []), ([], []), ([37], [37]), ([37, 52], [37, 52]), ([37, 122, 122], [37, 122, 122]), ([37, 52, 122], [37, 52, 122])]
theorem whole_eq : wholeL.map (fun p => (p.1.cps.toList, p.2.cps.toList)) = wholeN := by decide +kernel
theorem half_eq : halfL.map (fun p => (p.1.cps.toList, p.2.cps.toList)) = halfN := by decide +kernel
theorem p_one {c d : Nat} (h : (if c = 43 then 32 else c) = d) (h37 : d ≠ 37) (hd : d < 128) (v : UInt8) (hv : d.toUInt8 = v) (hv2 : v.toNat = d) (rest ds : List Nat) (hu : U8 (octs (plusL rest)) ds) : U8 (octs (plusL ([c] ++ rest))) ([d] ++ ds) := by
  have e : plusL ([c] ++ rest) = d :: plusL rest := by
    show (if c = 43 then 32 else c) :: plusL rest = _
    rw [h]
  rw [e, octs_ne h37, hv]
  have := U8.one (c := v) (by omega) hu
  rw [hv2] at this
  exact this
theorem p_esc {a b d : Nat} (ha : isHex a = true) (hb : isHex b = true) (v : UInt8) (hv : (hexv a * 16 + hexv b).toUInt8 = v) (hv2 : v.toNat = d) (hd : d < 128) (rest ds : List Nat) (hu : U8 (octs (plusL rest)) ds) (ha3 : a ≠ 43) (hb3 : b ≠ 43) : U8 (octs (plusL ([37, a, b] ++ rest))) ([d] ++ ds) := by
  have e : plusL ([37, a, b] ++ rest) = 37 :: a :: b :: plusL rest := by
    show (if (37 : Nat) = 43 then 32 else 37) :: (if a = 43 then 32 else a) :: (if b = 43 then 32 else b) :: plusL rest = _
    rw [if_neg ha3, if_neg hb3]; rfl
  rw [e, esc_step ha hb hv]
  have := U8.one (c := v) (by omega) hu
  rw [hv2] at this
  exact this
theorem whole_ok : ∀ q ∈ wholeN, PieceOk q.1 q.2 := by
  unfold wholeN
  simp only [List.forall_mem_cons, List.not_mem_nil, false_implies, implies_true, and_true]
  refine ⟨⟨?_, by decide, by decide⟩, ⟨?_, by decide, by decide⟩, ⟨?_, by decide, by decide⟩, ⟨?_, by decide, by decide⟩, ⟨?_, by decide, by decide⟩, ⟨?_, by decide, by decide⟩, ⟨?_, by decide, by decide⟩, ⟨?_, by decide, by decide⟩, ⟨?_, by decide, by decide⟩, ⟨?_, by decide, by decide⟩, ⟨?_, by decide, by decide⟩, ⟨?_, by decide, by decide⟩, ⟨?_, by decide, by decide⟩, ⟨?_, by decide, by decide⟩⟩
  · exact fun r ds h => p_one (by decide) (by decide) (by decide) 97 (by decide) (by decide) r ds h
  · exact fun r ds h => p_one (by decide) (by decide) (by decide) 98 (by decide) (by decide) r ds h
  · exact fun r ds h => p_one (by decide) (by decide) (by decide) 32 (by decide) (by decide) r ds h
  · exact fun r ds h => p_esc (by decide) (by decide) 32 (by decide) (by decide) (by decide) r ds h (by decide) (by decide)
  · exact fun r ds h => p_esc (by decide) (by decide) 43 (by decide) (by decide) (by decide) r ds h (by decide) (by decide)
  · exact fun r ds h => p_esc (by decide) (by decide) 38 (by decide) (by decide) (by decide) r ds h (by decide) (by decide)
  · exact fun r ds h => p_esc (by decide) (by decide) 61 (by decide) (by decide) (by decide) r ds h (by decide) (by decide)
  · exact fun r ds h => p_esc (by decide) (by decide) 37 (by decide) (by decide) (by decide) r ds h (by decide) (by decide)
  · intro r ds h
    have h1 := p_one (c := 49) (d := 49) (by decide) (by decide) (by decide) 49 (by decide) (by decide) r ds h
    have h2 := p_one (c := 52) (d := 52) (by decide) (by decide) (by decide) 52 (by decide) (by decide) _ _ h1
    exact p_esc (a := 50) (b := 53) (d := 37) (by decide) (by decide) 37 (by decide) (by decide) (by decide) _ _ h2 (by decide) (by decide)
  · intro r ds h
    have e : plusL ([37, 67, 51, 37, 65, 57] ++ r) = 37 :: 67 :: 51 :: 37 :: 65 :: 57 :: plusL r := rfl
    rw [e, esc_step (v := 195) (by decide) (by decide) (by decide), esc_step (v := 169) (by decide) (by decide) (by decide)]
    exact U8.two h
  · intro r ds h
    have e : plusL ([37, 101, 50, 37, 56, 50, 37, 97, 99] ++ r) = 37 :: 101 :: 50 :: 37 :: 56 :: 50 :: 37 :: 97 :: 99 :: plusL r := rfl
    rw [e, esc_step (v := 226) (by decide) (by decide) (by decide), esc_step (v := 130) (by decide) (by decide) (by decide), esc_step (v := 172) (by decide) (by decide) (by decide)]
    exact U8.three h
  · intro r ds h
    have e : plusL ([37, 70, 48, 37, 57, 70, 37, 57, 56, 37, 56, 48] ++ r) = 37 :: 70 :: 48 :: 37 :: 57 :: 70 :: 37 :: 57 :: 56 :: 37 :: 56 :: 48 :: plusL r := rfl
    rw [e, esc_step (v := 240) (by decide) (by decide) (by decide), esc_step (v := 159) (by decide) (by decide) (by decide), esc_step (v := 152) (by decide) (by decide) (by decide), esc_step (v := 128) (by decide) (by decide) (by decide)]
    exact U8.four h
  · exact fun r ds h => p_esc (by decide) (by decide) 10 (by decide) (by decide) (by decide) r ds h (by decide) (by decide)
  · exact fun r ds h => h
structure HalfOk (a m : List Nat) : Prop where
  reads : U8 (octs (plusL a)) m
  signs : ∀ c ∈ a, c < 128 ∧ c ≠ 38 ∧ c ≠ 61
  meant : ∀ c ∈ m, c < 1114112
theorem u37 : U8 [37] [37] := U8.one (c := 37) (by decide) .nil
theorem half_ok : ∀ q ∈ halfN, HalfOk q.1 q.2 := by
  unfold halfN
  simp only [List.forall_mem_cons, List.not_mem_nil, false_implies, implies_true, and_true]
  refine ⟨⟨.nil, by decide, by decide⟩, ⟨.nil, by decide, by decide⟩, ⟨?_, by decide, by decide⟩, ⟨?_, by decide, by decide⟩, ⟨?_, by decide, by decide⟩, ⟨?_, by decide, by decide⟩⟩
  · have e : octs (plusL [37]) = [37] := by decide
    rw [e]; exact u37
  · have e : octs (plusL [37, 52]) = [37, 52] := by decide
    rw [e]; exact U8.one (c := 37) (by decide) (U8.one (c := 52) (by decide) .nil)
  · have e : octs (plusL [37, 122, 122]) = [37, 122, 122] := by decide
    rw [e]; exact U8.one (c := 37) (by decide) (U8.one (c := 122) (by decide) (U8.one (c := 122) (by decide) .nil))
  · have e : octs (plusL [37, 52, 122]) = [37, 52, 122] := by decide
    rw [e]; exact U8.one (c := 37) (by decide) (U8.one (c := 52) (by decide) (U8.one (c := 122) (by decide) .nil))
theorem wT_ok (k : Int) : PieceOk (wT k).1.cps.toList (wT k).2.cps.toList := by
  refine getD_all (P := fun p : Str × Str => PieceOk p.1.cps.toList p.2.cps.toList) (fun p hp => ?_) ?_ _
  · exact whole_ok (p.1.cps.toList, p.2.cps.toList) (by rw [← whole_eq]; exact List.mem_map.mpr ⟨p, hp, rfl⟩)
  · have : (Str.ofString "").cps.toList = [] := by decide +kernel
    show PieceOk (Str.ofString "").cps.toList (Str.ofString "").cps.toList
    rw [this]
    exact whole_ok ([], []) (by decide)
theorem hT_ok (k : Int) : HalfOk (hT k).1.cps.toList (hT k).2.cps.toList := by
  refine getD_all (P := fun p : Str × Str => HalfOk p.1.cps.toList p.2.cps.toList) (fun p hp => ?_) ?_ _
  · exact half_ok (p.1.cps.toList, p.2.cps.toList) (by rw [← half_eq]; exact List.mem_map.mpr ⟨p, hp, rfl⟩)
  · have : (Str.ofString "").cps.toList = [] := by decide +kernel
    show HalfOk (Str.ofString "").cps.toList (Str.ofString "").cps.toList
    rw [this]
    exact half_ok ([], []) (by decide)
/-- a cut reads to what it means -/
theorem cut_ok (y : Int) : HalfOk (cutText y).cps.toList (cutSaid y).cps.toList := by
  have h1 := wT_ok (y.fmod 14)
  have h2 := wT_ok ((y.fdiv 14).fmod 14)
  have h3 := hT_ok ((y.fdiv 196).fmod 6)
  have e1 : (cutText y).cps.toList = (wT (y.fmod 14)).1.cps.toList ++ ((wT ((y.fdiv 14).fmod 14)).1.cps.toList ++ (hT ((y.fdiv 196).fmod 6)).1.cps.toList) := by
    unfold cutText; rw [toList_app, toList_app, List.append_assoc]
  have e2 : (cutSaid y).cps.toList = (wT (y.fmod 14)).2.cps.toList ++ ((wT ((y.fdiv 14).fmod 14)).2.cps.toList ++ (hT ((y.fdiv 196).fmod 6)).2.cps.toList) := by
    unfold cutSaid; rw [toList_app, toList_app, List.append_assoc]
  rw [e1, e2]
  refine ⟨h1.reads _ _ (h2.reads _ _ h3.reads), fun c hc => ?_, fun c hc => ?_⟩
  · rcases List.mem_append.mp hc with h | h
    · exact h1.signs c h
    · rcases List.mem_append.mp h with h | h
      · exact h2.signs c h
      · exact h3.signs c h
  · rcases List.mem_append.mp hc with h | h
    · exact h1.meant c h
    · rcases List.mem_append.mp h with h | h
      · exact h2.meant c h
      · exact h3.meant c h
end Mine
end
section
open PySem PySem.W PyProof.Rows PySem.Spec PySem.Calls
namespace Mine
theorem U8.det {bs : List UInt8} {ds : List Nat} (h : U8 bs ds) : ∀ es, U8 bs es → ds = es := by
  induction h with
  | nil => intro es k; cases k; rfl
  | @one c r ds hc hr ih =>
    intro es k
    cases k with
    | one _ k => rw [ih _ k]
    | two k => exact absurd hc (by decide)
    | three k => exact absurd hc (by decide)
    | four k => exact absurd hc (by decide)
  | two hr ih =>
    intro es k
    cases k with
    | one hc k => exact absurd hc (by decide)
    | two k => rw [ih _ k]
  | three hr ih =>
    intro es k
    cases k with
    | one hc k => exact absurd hc (by decide)
    | three k => rw [ih _ k]
  | four hr ih =>
    intro es k
    cases k with
    | one hc k => exact absurd hc (by decide)
    | four k => rw [ih _ k]
open Classical in
/-- what a part's name or value is read to -/
noncomputable def rdOf (x : Str) : List Nat := if h : ∃ ds, U8 (octs (plusTo x).cps.toList) ds then Classical.choose h else []
structure RdOk (x s : Str) : Prop where
  signs : ∀ c ∈ x.cps.toList, c < 128 ∧ c ≠ 38
  reads : U8 (octs (plusL x.cps.toList)) s.cps.toList
  len : x.length ≤ 40
  meant : ∀ c ∈ s.cps.toList, c < 1114112
theorem RdOk.unq {x s : Str} (h : RdOk x s) : UnqOk (plusTo x) s.cps.toList where
  asc := by
    rw [plusTo_list]
    exact plusL_asc fun c hc => (h.signs c hc).1
  len := by
    rw [len_list, plusTo_list, plusL_len, ← len_list]
    have := h.len
    omega
  u8 := by rw [plusTo_list]; exact h.reads
theorem RdOk.rd {x s : Str} (h : RdOk x s) : rdOf x = s.cps.toList := by
  have hu := h.unq.u8
  have he : ∃ ds, U8 (octs (plusTo x).cps.toList) ds := ⟨_, hu⟩
  unfold rdOf
  rw [dif_pos he]
  exact (Classical.choose_spec he).det _ hu
theorem RdOk.str {x s : Str} (h : RdOk x s) : (⟨(rdOf x).toArray⟩ : Str) = s := str_ext (by rw [h.rd])
theorem rd_cut (y : Int) : RdOk (cutText y) (cutSaid y) where
  signs := fun c hc => ⟨((cut_ok y).signs c hc).1, ((cut_ok y).signs c hc).2.1⟩
  reads := (cut_ok y).reads
  len := by have := cutText_len y; omega
  meant := (cut_ok y).meant
theorem rd_eq {x s : Str} (h : RdOk x s) (hl : x.length ≤ 39) : RdOk (Str.ofString "=" ++ x) (Str.ofString "=" ++ s) where
  signs := by
    intro c hc
    rw [toList_app, lit_eq] at hc
    rcases List.mem_append.mp hc with q | q
    · rw [List.mem_singleton.mp q]; decide
    · exact h.signs c q
  reads := by
    rw [toList_app, toList_app, lit_eq]
    exact p_one (c := 61) (d := 61) (by decide) (by decide) (by decide) 61 (by decide) (by decide) _ _ h.reads
  len := by rw [Str.length_append, eq_len]; omega
  meant := by
    intro c hc
    rw [toList_app, lit_eq] at hc
    rcases List.mem_append.mp hc with q | q
    · rw [List.mem_singleton.mp q]; decide
    · exact h.meant c q
theorem rd_val (y : Int) : RdOk (valText y) (valSaid y) := by
  unfold valText valSaid
  split
  · exact rd_eq (rd_cut _) (by have := cutText_len (y * 7 + 3); omega)
  · exact rd_cut _
theorem nil_list : (Str.ofString "").cps.toList = [] := by decide +kernel
theorem rd_nil : RdOk (Str.ofString "") (Str.ofString "") where
  signs := by rw [nil_list]; exact fun c hc => nomatch hc
  reads := by rw [nil_list]; exact .nil
  len := by decide +kernel
  meant := by rw [nil_list]; exact fun c hc => nomatch hc
theorem empty_nil : Str.empty = Str.ofString "" := by decide +kernel
theorem no61 (y : Int) : 61 ∉ (cutText y).cps.toList := fun h => absurd rfl ((cut_ok y).signs 61 h).2.2

/-- how a part's text falls apart -/
structure PartLaw (p n v s m : Str) : Prop where
  name : nameOf p = n
  value : valueOf p = v
  rn : RdOk n s
  rv : RdOk v m
  signs : 38 ∉ p.cps.toList
  len : p.length ≤ 90
theorem PartLaw.ok {p n v s m : Str} (h : PartLaw p n v s m) : PartOk rdOf p where
  plen := by have := h.len; omega
  nlen := by rw [h.name]; have := h.rn.len; omega
  vlen := by rw [h.value]; have := h.rv.len; omega
  name := by rw [h.name, h.rn.rd]; exact h.rn.unq
  value := by rw [h.value, h.rv.rd]; exact h.rv.unq
theorem PartLaw.row {p n v s m : Str} (h : PartLaw p n v s m) (keep : Bool) : rowOf keep rdOf p = if p.length ≠ 0 ∧ (v.length ≠ 0 ∨ keep = true) then [.tuple [.str s, .str m]] else [] := by
  unfold rowOf
  rw [h.name, h.value, h.rn.str, h.rv.str]
theorem free38 {x s : Str} (h : RdOk x s) : 38 ∉ x.cps.toList := fun q => absurd rfl (h.signs 38 q).2
theorem law_eqv {n v s m : Str} (hn : RdOk n s) (hv : RdOk v m) (h61 : 61 ∉ n.cps.toList) : PartLaw (n ++ Str.ofString "=" ++ v) n v s m where
  name := by unfold nameOf; rw [part_at h61]
  value := by unfold valueOf; rw [part_at h61]
  rn := hn
  rv := hv
  signs := by
    rw [toList_app, toList_app, lit_eq]
    intro q
    rcases List.mem_append.mp q with q | q
    · rcases List.mem_append.mp q with q | q
      · exact free38 hn q
      · exact absurd (List.mem_singleton.mp q) (by decide)
    · exact free38 hv q
  len := by
    rw [Str.length_append, Str.length_append, eq_len]
    have := hn.len
    have := hv.len
    omega
theorem law_alone {n s : Str} (hn : RdOk n s) (h61 : 61 ∉ n.cps.toList) : PartLaw n n (Str.ofString "") s (Str.ofString "") where
  name := by unfold nameOf; rw [part_none h61]
  value := by unfold valueOf; rw [part_none h61]; exact empty_nil
  rn := hn
  rv := rd_nil
  signs := free38 hn
  len := by have := hn.len; omega
theorem app_nil (x : Str) : x ++ Str.ofString "" = x := str_ext (by rw [toList_app, nil_list, List.append_nil])
theorem nil_app (x : Str) : Str.ofString "" ++ x = x := str_ext (by rw [toList_app, nil_list, List.nil_append])
theorem no61nil : 61 ∉ (Str.ofString "").cps.toList := by rw [nil_list]; exact fun h => nomatch h
theorem ne_nil_iff (x : Str) : (x != Str.ofString "") = decide (x.length ≠ 0) := by
  rw [Bool.eq_iff_iff, bne_iff_ne, decide_eq_true_eq]
  constructor
  · intro h q
    exact h (str_ext (by rw [nil_list]; exact List.eq_nil_of_length_eq_zero (by rw [← len_list]; exact q)))
  · intro h q
    rw [q] at h
    exact h (by decide +kernel)
theorem nil_len : (Str.ofString "").length = 0 := by decide +kernel

/-- the law of one part -/
structure OneLaw (pv : PartV) : Prop where
  ok : PartOk rdOf pv.text
  plain : rowOf false rdOf pv.text = if pv.flag = true then [.tuple [.str pv.said, .str pv.meant]] else []
  kept : rowOf true rdOf pv.text = if (pv.text != Str.ofString "") = true then [.tuple [.str pv.said, .str pv.meant]] else []
  signs : 38 ∉ pv.text.cps.toList
  len : pv.text.length ≤ 90
  said : ∀ c ∈ pv.said.cps.toList, c < 1114112
  meant : ∀ c ∈ pv.meant.cps.toList, c < 1114112
theorem one_of {pv : PartV} {n v : Str} (h : PartLaw pv.text n v pv.said pv.meant) (hf : pv.flag = true ↔ pv.text.length ≠ 0 ∧ v.length ≠ 0) : OneLaw pv where
  ok := h.ok
  plain := by
    rw [h.row]
    by_cases q : pv.flag = true
    · rw [if_pos q, if_pos ⟨(hf.mp q).1, .inl (hf.mp q).2⟩]
    · rw [if_neg q, if_neg fun z => q (hf.mpr ⟨z.1, z.2.elim id fun e => nomatch e⟩)]
  kept := by
    rw [h.row, ne_nil_iff]
    by_cases q : pv.text.length ≠ 0
    · rw [if_pos ⟨q, .inr rfl⟩, if_pos (decide_eq_true q)]
    · rw [if_neg fun z => q z.1, if_neg (by simpa using q)]
  signs := h.signs
  len := h.len
  said := h.rn.meant
  meant := h.rv.meant
theorem one_law (k y : Int) : OneLaw (partK k y) := by
  unfold partK
  split
  · refine one_of (n := cutText y) (v := valText y) (law_eqv (rd_cut y) (rd_val y) (no61 y)) ?_
    show (valText y != Str.ofString "") = true ↔ _
    rw [ne_nil_iff, decide_eq_true_eq]
    exact ⟨fun h => ⟨by show (cutText y ++ Str.ofString "=" ++ valText y).length ≠ 0; rw [Str.length_append, Str.length_append, eq_len]; omega, h⟩, fun h => h.2⟩
  · split
    · refine one_of (n := cutText y) (v := Str.ofString "") (law_alone (rd_cut y) (no61 y)) ?_
      exact ⟨fun h => (nomatch h), fun h => absurd nil_len h.2⟩
    · split
      · refine one_of (n := Str.ofString "") (v := Str.ofString "") (law_alone rd_nil no61nil) ?_
        exact ⟨fun h => (nomatch h), fun h => absurd nil_len h.2⟩
      · split
        · refine one_of (n := cutText y) (v := Str.ofString "") ?_ ?_
          · have h := law_eqv (rd_cut y) rd_nil (no61 y)
            rw [app_nil] at h
            exact h
          · exact ⟨fun h => (nomatch h), fun h => absurd nil_len h.2⟩
        · refine one_of (n := Str.ofString "") (v := valText y) ?_ ?_
          · have h := law_eqv rd_nil (rd_val y) no61nil
            rw [nil_app] at h
            exact h
          · show (valText y != Str.ofString "") = true ↔ _
            rw [ne_nil_iff, decide_eq_true_eq]
            exact ⟨fun h => ⟨by show (Str.ofString "=" ++ valText y).length ≠ 0; rw [Str.length_append, eq_len]; omega, h⟩, fun h => h.2⟩
theorem one (x : Int) : OneLaw (partOf x) := one_law _ _

noncomputable def psOf (xs : List Int) : List Str := if xs = [] then [Str.ofString ""] else textsOf xs
def plainRows (xs : List Int) : List Dat := ((xs.map partD).filter c2).map g1
def keptRows (xs : List Int) : List Dat := ((xs.map partD).filter c0).map g1
section
variable {xs : List Int}
theorem texts_len : (textsOf xs).length = xs.length := List.length_map _
theorem texts_mem {p : Str} (h : p ∈ textsOf xs) : ∃ x, p = (partOf x).text := by
  obtain ⟨x, _, rfl⟩ := List.mem_map.mp h
  exact ⟨x, rfl⟩
theorem texts_90 : ∀ p ∈ textsOf xs, p.length ≤ 90 := fun p hp => by
  obtain ⟨x, rfl⟩ := texts_mem hp
  exact (one x).len
theorem law_join (h : xs.length ≤ 12) : JoinOk (Str.ofString "&") (textsOf xs) = true :=
  join_ok 90 texts_90 (by rw [texts_len, sizeLine_eq]; omega)
theorem law_len (h : xs.length ≤ 12) : (textOf xs).length + 2 ≤ sizeLine := by
  have h1 := join_len 90 (textsOf xs) texts_90
  have e : textOf xs = Str.join ⟨#[38]⟩ (textsOf xs) := by
    unfold textOf
    rw [lit_amp]
    exact StrLaws.glued_eq_join _ _
  rw [e, sizeLine_eq]
  rw [texts_len] at h1
  omega
theorem law_split (h : xs.length ≤ 12) : Txt.split (textOf xs) (Str.ofString "&") = psOf xs := by
  unfold psOf
  cases xs with
  | nil =>
    rw [if_pos rfl]
    have e : textOf [] = Str.ofString "" := by unfold textOf textsOf; decide +kernel
    rw [e]
    decide +kernel
  | cons x xs =>
    rw [if_neg (List.cons_ne_nil _ _)]
    refine split_join (by unfold textsOf; exact List.cons_ne_nil _ _) fun p hp => ?_
    obtain ⟨z, rfl⟩ := texts_mem hp
    exact (one z).signs
theorem law_n (h : xs.length ≤ 12) : ((psOf xs).map Dat.str).length ≤ 4096 := by
  rw [List.length_map]
  unfold psOf
  split
  · exact (by decide : (1 : Nat) ≤ 4096)
  · rw [texts_len]; omega
theorem nil_law : PartLaw (Str.ofString "") (Str.ofString "") (Str.ofString "") (Str.ofString "") (Str.ofString "") := law_alone rd_nil no61nil
theorem law_ok : ∀ d ∈ (psOf xs).map Dat.str, ∃ p, d = Dat.str p ∧ PartOk rdOf p := by
  intro d hd
  obtain ⟨p, hp, rfl⟩ := List.mem_map.mp hd
  refine ⟨p, rfl, ?_⟩
  unfold psOf at hp
  split at hp
  · rw [List.mem_singleton.mp hp]
    exact nil_law.ok
  · obtain ⟨x, rfl⟩ := texts_mem hp
    exact (one x).ok
theorem rows_texts (keep : Bool) (c : Dat → Bool) (h : ∀ x, rowOf keep rdOf (partOf x).text = if c (partD x) = true then [g1 (partD x)] else []) :
    ∀ xs : List Int, rowsOf keep rdOf ((textsOf xs).map Dat.str) = ((xs.map partD).filter c).map g1
  | [] => rfl
  | x :: xs => by
    have ih := rows_texts keep c h xs
    have e : rowsOf keep rdOf ((textsOf (x :: xs)).map Dat.str) = rowOf keep rdOf (partOf x).text ++ rowsOf keep rdOf ((textsOf xs).map Dat.str) := List.flatMap_cons
    rw [e, h, ih, List.map_cons]
    by_cases q : c (partD x) = true
    · rw [if_pos q, List.filter_cons_of_pos q]; rfl
    · rw [if_neg q, List.filter_cons_of_neg q]; rfl
theorem rows_ps (keep : Bool) (c : Dat → Bool) (h : ∀ x, rowOf keep rdOf (partOf x).text = if c (partD x) = true then [g1 (partD x)] else []) : rowsOf keep rdOf ((psOf xs).map Dat.str) = ((xs.map partD).filter c).map g1 := by
  unfold psOf
  cases xs with
  | nil =>
    rw [if_pos rfl]
    have e : rowsOf keep rdOf ([Str.ofString ""].map Dat.str) = rowOf keep rdOf (Str.ofString "") ++ [] := List.flatMap_cons
    rw [e, nil_law.row, if_neg (fun z => z.1 nil_len)]
    rfl
  | cons x xs =>
    rw [if_neg (List.cons_ne_nil _ _)]
    exact rows_texts keep c h _
theorem law_plain : rowsOf false rdOf ((psOf xs).map Dat.str) = plainRows xs := rows_ps false c2 fun x => (one x).plain
theorem law_kept : rowsOf true rdOf ((psOf xs).map Dat.str) = keptRows xs := rows_ps true c0 fun x => (one x).kept
theorem ok_of {c : Dat → Bool} : ∀ d ∈ ((xs.map partD).filter c).map g1, kqdOk 8 d = true := by
  intro d hd
  obtain ⟨e, he, rfl⟩ := List.mem_map.mp hd
  obtain ⟨x, _, rfl⟩ := List.mem_map.mp (List.mem_filter.mp he).1
  have h1 : PyData.strOk (partOf x).said = true := by
    unfold PyData.strOk
    rw [Array.all_eq_true_iff_forall_mem]
    exact fun c hc => decide_eq_true ((one x).said c (Array.mem_toList_iff.mpr hc))
  have h2 : PyData.strOk (partOf x).meant = true := by
    unfold PyData.strOk
    rw [Array.all_eq_true_iff_forall_mem]
    exact fun c hc => decide_eq_true ((one x).meant c (Array.mem_toList_iff.mpr hc))
  show kqdOk 8 (.tuple [.str (partOf x).said, .str (partOf x).meant]) = true
  simp only [kqdOk, List.all_cons, List.all_nil, Bool.and_true, h1, h2]
theorem law_rows (keep : Bool) : ∀ d ∈ rowsOf keep rdOf ((psOf xs).map Dat.str), kqdOk 8 d = true := by
  cases keep with
  | false => rw [law_plain]; exact ok_of
  | true => rw [law_kept]; exact ok_of
end
end Mine
end
section
open PySem PySem.W PyProof.Rows PySem.Spec PySem.Calls
namespace Mine
theorem parse0_use {w : World} {loose : List Str} {mean : ExcName → Option Value} {mg mb : Str → Option Value} {news : List (Addr × Obj)} {xs : List Int} {tx : Tok}
    {dp un : Nat} {gd : Option (List Code)} {cn : Str} {cs : Scope} {a : Addr} {ccd : Value} {cl : List (Str × Addr)} {outer : List Env} {A₀ : Around} {base h₀ : Heap} {L : Addr} {m : Str → Option Value} {s : Shared} {Q E : Value → Shared → Prop}
    (h12 : xs.length ≤ 12) (B : Below A₀ base outer h₀) (F : Fr h₀ L s.heap m) (X : (Mine.hd.heap_39 w.params).In h₀) (N : News h₀ L s.heap news) (T : Top Mine.hd.view_39 loose mean mg mb h₀) (hk : cs.kind = .function)
    (hd : dp + 2 < recursionLimit) (hu : un + 16 < cLine)
    (ret : ∀ r us nn tl h' tk', Fr h₀ L h' m → News h₀ L h' ((r, listOf us.toArray nn) :: (news ++ tl)) → DatAll (news ++ tl) us (rowsOf false rdOf ((psOf xs).map Dat.str)) → Q (.ref r) { s with heap := h', toks := tk' }) :
    wpAny (model Challenge.rw_ep5034_01.row.prog w) (ktrTop dp un gd cn cs L a ccd cl outer) (call (.ref 29) [.str (textOf xs) tx]) Q E s :=
  parse0 w loose mean mg mb rdOf (textOf xs) tx (psOf xs) dp un gd cn cs a ccd cl outer A₀ base h₀ L m news s Q E (law_len h12) (law_split h12) (law_n h12) law_ok B F X N T hk hd hu ret
theorem parse1_use {w : World} {loose : List Str} {mean : ExcName → Option Value} {mg mb : Str → Option Value} {news : List (Addr × Obj)} {xs : List Int} {tx : Tok}
    {dp un : Nat} {gd : Option (List Code)} {cn : Str} {cs : Scope} {a : Addr} {ccd : Value} {cl : List (Str × Addr)} {outer : List Env} {A₀ : Around} {base h₀ : Heap} {L : Addr} {m : Str → Option Value} {s : Shared} {Q E : Value → Shared → Prop}
    {kw : List (Str × Value)} (h12 : xs.length ≤ 12) (hkw : kw = [(Str.ofString "keep_blank_values", .bool true)]) (B : Below A₀ base outer h₀) (F : Fr h₀ L s.heap m) (X : (Mine.hd.heap_39 w.params).In h₀) (N : News h₀ L s.heap news) (T : Top Mine.hd.view_39 loose mean mg mb h₀) (hk : cs.kind = .function)
    (hd : dp + 2 < recursionLimit) (hu : un + 16 < cLine)
    (ret : ∀ r us nn tl h' tk', Fr h₀ L h' m → News h₀ L h' ((r, listOf us.toArray nn) :: (news ++ tl)) → DatAll (news ++ tl) us (rowsOf true rdOf ((psOf xs).map Dat.str)) → Q (.ref r) { s with heap := h', toks := tk' }) :
    wpAny (model Challenge.rw_ep5034_01.row.prog w) (ktrTop dp un gd cn cs L a ccd cl outer) (call (.ref 29) [.str (textOf xs) tx] kw) Q E s := by
  subst hkw
  exact parse1 w loose mean mg mb rdOf (textOf xs) tx (psOf xs) dp un gd cn cs a ccd cl outer A₀ base h₀ L m news s Q E (law_len h12) (law_split h12) (law_n h12) law_ok B F X N T hk hd hu ret
section
local macro_rules | `(tactic| walk_at "call ref") => `(tactic| (k_here; (with_reducible show wpAny _ _ (call (Value.ref 65) [Value.int _ _]) _ _ _); k_dflt (refine' part_use ?k1 ?k2 ?k3 ?k4 ?k5 ?kK ?kd ?ku ?_; (case k1 => k_asm); (case k2 => k_asm); (case k3 => k_asm); (case k4 => k_asm); (case k5 => k_asm); (case kK => first | exact rfl | assumption); (case kd => ktr_room); (case ku => ktr_units)); intro r' tl' h' tk' F' N' lt' hD'; (try dsimp only)))
local macro_rules | `(tactic| walk_at "CompSrc") => `(tactic| (k_here; k_dflt (
  (refine LCg.CompSrc.ledger (by rfl) (by k_asm) (by k_asm) (by k_mem) (by first | size_fits | (rw [List.size_toArray]; have h9 := IntsAre.length (by with_reducible assumption); rw [h9, sizeLine_eq]; omega)) ?_; intro g');
  (refine' comp_made partD (by with_reducible assumption) _ (src_of (by k_mem)) ?helt ?_ _ 0 [] _ (Nat.zero_add _) (fun _ hp => hp) .nil);
  (case helt =>
    intro i9 t9 I9 oI9 C9 oC9 D9 oD9 m9 h9 tk9 news9 Q9 E9 hC9 hx9 F9 N9 ret9
    k_steps
    exact ret9 _ _ _ _ (by with_reducible assumption) (by with_reducible assumption) (by with_reducible assumption) (by with_reducible assumption));
  (intro ys7 news7 hb7 hd7))))
local macro_rules | `(tactic| walk_at "eval ListComp") => `(tactic| (k_here; k_dflt (refine LCg.ListComp_U (F₀ := by k_asm) (by rfl) (by decide) (by rfl) (by decide) (by rfl) ?_); k_dflt lcg_toSrc))
local macro_rules | `(tactic| walk_at "subscriptTail Name Constant ref int") => `(tactic| (k_here; k_dflt (refine' item_t (by k_asm) ?m9 ?a9 ?b9 ?j9 ?x9 ?_; (case m9 => with_reducible assumption); (case a9 => decide); (case b9 => decide); (case j9 => rfl); (case x9 => rfl); k_whole)))
local macro_rules | `(tactic| walk_at "CompSrc") => `(tactic| (k_here; kd_here; refine wrap_in ?_))
local macro_rules | `(tactic| walk_at "Wrap") => `(tactic| (k_here; unfold Wrap; k_dflt (
  (refine LCg.CompSrc.ledger (by rfl) (by k_asm) (by k_asm) (by (repeat (first | exact List.Mem.head _ | with_reducible assumption | (with_reducible refine List.mem_cons_of_mem _ ?_) | (with_reducible refine List.mem_append.mpr (Or.inl ?_)) | (with_reducible refine sub_use (by with_reducible assumption) ?_)))) (by (rw [List.size_toArray]; refine Nat.le_trans (Nat.le_of_eq (DatAll.length (by with_reducible assumption))) ?_; rw [List.length_map, sizeLine_eq]; have hz9 := List.length_take_le 12 ‹List Int›; omega)) ?_; intro g');
  (refine' comp_read g0 _ (dat_up (by with_reducible assumption) (by intro p9 hp9; (repeat (first | exact List.Mem.head _ | with_reducible assumption | (with_reducible refine List.mem_cons_of_mem _ ?_) | (with_reducible refine List.mem_append.mpr (Or.inl ?_)) | (with_reducible refine sub_use (by with_reducible assumption) ?_))))) (src_of (by (repeat (first | exact List.Mem.head _ | with_reducible assumption | (with_reducible refine List.mem_cons_of_mem _ ?_) | (with_reducible refine List.mem_append.mpr (Or.inl ?_)) | (with_reducible refine sub_use (by with_reducible assumption) ?_))))) ?helt ?_ _ 0 [] _ (Nat.zero_add _) (fun _ hp => hp) .nil);
  (case helt =>
    intro d9 v9 I9 oI9 C9 oC9 D9 oD9 m9 h9 tk9 news9 Q9 E9 hd9 hD9 hC9 hx9 F9 N9 hb9 ret9
    obtain ⟨x9, e9, a9, q9, t9, n9, f9, hm9, hq9⟩ := dat_inv hd9 hD9
    subst e9 f9
    have hm8 := List.mem_cons_of_mem (I9, oI9) (List.mem_cons_of_mem (C9, oC9) (List.mem_cons_of_mem (D9, oD9) (hb9 _ hm9)))
    k_steps
    exact ret9 _ _ _ (by with_reducible assumption) (by with_reducible assumption) (DatIn.str _ _));
  (intro ys7 news7 hb7 hd7))))
local macro_rules | `(tactic| walk_at "CompSrcT") => `(tactic| (k_here; kd_here; refine wrapT_in ?_))
local macro_rules | `(tactic| walk_at "WrapT") => `(tactic| (k_here; unfold WrapT; k_dflt (
  (refine LCt.CompSrcT.ledger (by rfl) (by k_asm) (by k_asm) (by (repeat (first | exact List.Mem.head _ | with_reducible assumption | (with_reducible refine List.mem_cons_of_mem _ ?_) | (with_reducible refine List.mem_append.mpr (Or.inl ?_)) | (with_reducible refine sub_use (by with_reducible assumption) ?_)))) (by (rw [List.size_toArray]; refine Nat.le_trans (Nat.le_of_eq (DatAll.length (by with_reducible assumption))) ?_; rw [List.length_map, sizeLine_eq]; have hz9 := List.length_take_le 12 ‹List Int›; omega)) ?_; intro g');
  (refine' comp_test g1 c0 _ (dat_up (by with_reducible assumption) (by intro p9 hp9; (repeat (first | exact List.Mem.head _ | with_reducible assumption | (with_reducible refine List.mem_cons_of_mem _ ?_) | (with_reducible refine List.mem_append.mpr (Or.inl ?_)) | (with_reducible refine sub_use (by with_reducible assumption) ?_))))) (src_of (by (repeat (first | exact List.Mem.head _ | with_reducible assumption | (with_reducible refine List.mem_cons_of_mem _ ?_) | (with_reducible refine List.mem_append.mpr (Or.inl ?_)) | (with_reducible refine sub_use (by with_reducible assumption) ?_))))) ?htest ?helt ?_ _ 0 [] _ (Nat.zero_add _) (fun _ hp => hp) .nil);
  (case htest =>
    intro d9 v9 I9 oI9 C9 oC9 D9 oD9 m9 h9 tk9 news9 Q9 E9 hd9 hD9 hC9 hx9 F9 N9 hb9 ret9
    obtain ⟨x9, e9, a9, q9, t9, n9, f9, hm9, hq9⟩ := dat_inv hd9 hD9
    subst e9 f9
    have hm8 := List.mem_cons_of_mem (I9, oI9) (List.mem_cons_of_mem (C9, oC9) (List.mem_cons_of_mem (D9, oD9) (hb9 _ hm9)))
    k_steps
    exact ret9 _ _ (by with_reducible assumption) (by with_reducible assumption));
  (case helt =>
    intro d9 v9 I9 oI9 C9 oC9 D9 oD9 m9 h9 tk9 news9 Q9 E9 hd9 hD9 hC9 hx9 F9 N9 hb9 ret9
    obtain ⟨x9, e9, a9, q9, t9, n9, f9, hm9, hq9⟩ := dat_inv hd9 hD9
    subst e9 f9
    have hm8 := List.mem_cons_of_mem (I9, oI9) (List.mem_cons_of_mem (C9, oC9) (List.mem_cons_of_mem (D9, oD9) (hb9 _ hm9)))
    k_steps
    exact ret9 _ _ _ (by with_reducible assumption) (by with_reducible assumption) (by with_reducible assumption));
  (intro ys7 news7 hb7 hd7))))
local macro_rules | `(tactic| walk_at "WrapT") => `(tactic| (k_here; unfold WrapT; k_dflt (
  (refine LCt.CompSrcT.ledger (by rfl) (by k_asm) (by k_asm) (by (repeat (first | exact List.Mem.head _ | with_reducible assumption | (with_reducible refine List.mem_cons_of_mem _ ?_) | (with_reducible refine List.mem_append.mpr (Or.inl ?_)) | (with_reducible refine sub_use (by with_reducible assumption) ?_)))) (by (rw [List.size_toArray]; refine Nat.le_trans (Nat.le_of_eq (DatAll.length (by with_reducible assumption))) ?_; rw [List.length_map, sizeLine_eq]; have hz9 := List.length_take_le 12 ‹List Int›; omega)) ?_; intro g');
  (refine' comp_test g1 c2 _ (dat_up (by with_reducible assumption) (by intro p9 hp9; (repeat (first | exact List.Mem.head _ | with_reducible assumption | (with_reducible refine List.mem_cons_of_mem _ ?_) | (with_reducible refine List.mem_append.mpr (Or.inl ?_)) | (with_reducible refine sub_use (by with_reducible assumption) ?_))))) (src_of (by (repeat (first | exact List.Mem.head _ | with_reducible assumption | (with_reducible refine List.mem_cons_of_mem _ ?_) | (with_reducible refine List.mem_append.mpr (Or.inl ?_)) | (with_reducible refine sub_use (by with_reducible assumption) ?_))))) ?htest ?helt ?_ _ 0 [] _ (Nat.zero_add _) (fun _ hp => hp) .nil);
  (case htest =>
    intro d9 v9 I9 oI9 C9 oC9 D9 oD9 m9 h9 tk9 news9 Q9 E9 hd9 hD9 hC9 hx9 F9 N9 hb9 ret9
    obtain ⟨x9, e9, a9, q9, t9, n9, f9, hm9, hq9⟩ := dat_inv hd9 hD9
    subst e9 f9
    have hm8 := List.mem_cons_of_mem (I9, oI9) (List.mem_cons_of_mem (C9, oC9) (List.mem_cons_of_mem (D9, oD9) (hb9 _ hm9)))
    k_steps
    exact ret9 _ _ (by with_reducible assumption) (by with_reducible assumption));
  (case helt =>
    intro d9 v9 I9 oI9 C9 oC9 D9 oD9 m9 h9 tk9 news9 Q9 E9 hd9 hD9 hC9 hx9 F9 N9 hb9 ret9
    obtain ⟨x9, e9, a9, q9, t9, n9, f9, hm9, hq9⟩ := dat_inv hd9 hD9
    subst e9 f9
    have hm8 := List.mem_cons_of_mem (I9, oI9) (List.mem_cons_of_mem (C9, oC9) (List.mem_cons_of_mem (D9, oD9) (hb9 _ hm9)))
    k_steps
    exact ret9 _ _ _ (by with_reducible assumption) (by with_reducible assumption) (by with_reducible assumption));
  (intro ys7 news7 hb7 hd7))))
local macro_rules | `(tactic| walk_at "call builtin:str.join") => `(tactic| (k_here; (with_reducible show wpAny _ _ (call (Value.builtin "str.join") [Value.str _ _, Value.ref _]) _ _ _); k_dflt (refine my_join (by k_asm) (by (repeat (first | exact List.Mem.head _ | with_reducible assumption | (with_reducible refine List.mem_cons_of_mem _ ?_) | (with_reducible refine List.mem_append.mpr (Or.inl ?_)) | (with_reducible refine sub_use (by with_reducible assumption) ?_)))) (by with_reducible assumption) (law_join (List.length_take_le _ _)) ?_; intro t7 k7)))
local macro_rules | `(tactic| walk_at "call ref") => `(tactic| (k_here; (with_reducible show wpAny _ _ (call (Value.ref 29) [Value.str _ _]) _ _ _); k_dflt (refine' parse0_use (List.length_take_le _ _) ?k1 ?k2 ?k3 ?k4 ?k5 ?kK ?kd ?ku ?_; (case k1 => k_asm); (case k2 => k_asm); (case k3 => k_asm); (case k4 => k_asm); (case k5 => k_asm); (case kK => first | exact rfl | assumption); (case kd => ktr_room); (case ku => ktr_units)); intro r7 us7 nn7 tl7 h' tk' F' N' hD7; (try dsimp only); (try k_fold)))
local macro_rules | `(tactic| walk_at "call ref") => `(tactic| (k_here; (with_reducible show wpAny _ _ (call (Value.ref 29) _ _) _ _ _); (fail_if_success (with_reducible show wpAny _ _ (call (Value.ref 29) [Value.str _ _]) _ _ _)); k_dflt (refine' parse1_use (List.length_take_le _ _) ?kk ?k1 ?k2 ?k3 ?k4 ?k5 ?kK ?kd ?ku ?_; (case kk => exact rfl); (case k1 => k_asm); (case k2 => k_asm); (case k3 => k_asm); (case k4 => k_asm); (case k5 => k_asm); (case kK => first | exact rfl | assumption); (case kd => ktr_room); (case ku => ktr_units)); intro r7 us7 nn7 tl7 h' tk' F' N' hD7; (try dsimp only); (try k_fold)))
local macro_rules | `(tactic| walk_at "compareOp Eq ref ref") => `(tactic| (k_here; (with_reducible show wpAny _ _ (compareOp CmpOp.Eq (Value.ref _) (Value.ref _)) _ _ _); k_dflt (refine my_eq (by k_asm) (by (repeat (first | exact List.Mem.head _ | with_reducible assumption | (with_reducible refine List.mem_cons_of_mem _ ?_) | (with_reducible refine List.mem_append.mpr (Or.inl ?_)) | (with_reducible refine sub_use (by with_reducible assumption) ?_)))) (by with_reducible assumption) (by intro p9 hp9; (repeat (first | exact List.Mem.head _ | with_reducible assumption | (with_reducible refine List.mem_cons_of_mem _ ?_) | (with_reducible refine List.mem_append.mpr (Or.inl ?_)) | (with_reducible refine sub_use (by with_reducible assumption) ?_)))) (by (repeat (first | exact List.Mem.head _ | with_reducible assumption | (with_reducible refine List.mem_cons_of_mem _ ?_) | (with_reducible refine List.mem_append.mpr (Or.inl ?_)) | (with_reducible refine sub_use (by with_reducible assumption) ?_)))) (by with_reducible assumption) (by intro p9 hp9; (repeat (first | exact List.Mem.head _ | with_reducible assumption | (with_reducible refine List.mem_cons_of_mem _ ?_) | (with_reducible refine List.mem_append.mpr (Or.inl ?_)) | (with_reducible refine sub_use (by with_reducible assumption) ?_)))) (law_rows _) (by first | exact law_plain | exact law_kept) (by first | ke_room | k_units) ?_)))
set_option maxRecDepth 100000 in
set_option maxHeartbeats 8000000 in
theorem law_holds : PySem.Challenge.rw_ep5034_01.Holds := Mine.hd (by
  k_with_none
  k_go0
  all_goals (try k_fold)
  k_steps
  skip)
end
end Mine
end
set_option maxRecDepth 100000 in
set_option maxHeartbeats 8000000 in
theorem PySem.Challenge.cw_ep5034_01_holds : PySem.Challenge.rw_ep5034_01.Holds := by
  exact Mine.law_holds
