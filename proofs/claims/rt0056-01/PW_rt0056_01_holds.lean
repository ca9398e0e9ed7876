import PyProof.Rows.All
import Wide.All
import OpenK.AllK
import Wide.FinOn
import PySem.Challenge.RW_rt0056_01
open PySem PySem.W PyProof.Rows PySem.Calls
set_option Elab.async false
set_option compiler.extract_closed false
set_option linter.unusedVariables false

namespace Mine

section
set_option maxRecDepth 100000

theorem gm_translate {M : Model} {A : Around} {E : Value → Shared → Prop} {s : Shared} {x : Str} {t : Tok} {pl : Sem Bool} {Q : Value × List Value → Shared → Prop} (h : Q (.builtin "str.translate", [.str x t]) s) : wpAny M A (getMethod (.str x t) "translate" pl) Q E s := by
  with_reducible exact GM.of (.str x t) (typeIs_str _ _ _) F.slot_str_translate F.type_str_translate GM.noRef h

theorem wp_textB {M : Model} {A : Around} {E : Value → Shared → Prop} {s : Shared} {Q : Value → Shared → Prop} {v : Value} {text : List Nat} {b : Nat} {n : Int}
    (hs : (text.takeWhile (· != 0)).length ≤ 640) (hr : (int_private% "readNumeral") 0 b (text.takeWhile (· != 0)) = (int_private% "Numeral.value") n)
    (ha : ((text.takeWhile (· != 0)).length == text.length) = true) (h : Q (.int n s.toks) { s with toks := s.toks + 1 }) :
    wpAny M A ((int_private% "intFromText") v text b) Q E s := by
  obtain ⟨hp, g, d, tk, os⟩ := s
  repeat (any_goals (first
    | assumption
    | (with_reducible refine wpAny_ite_true (decide_eq_true hs) ?_)
    | (with_reducible refine wpAny_ite_true (decide_eq_true ha) ?_)
    | wp_step))
  all_goals (try rw [hr])
  all_goals (try dsimp only)
  repeat (any_goals (first
    | assumption
    | (with_reducible refine wpAny_ite_true (decide_eq_true hs) ?_)
    | (with_reducible refine wpAny_ite_true (decide_eq_true ha) ?_)
    | wp_step))

theorem ite_text {p : Prop} [Decidable p] {l r z : List Nat} (h : p) (e : l = z) : (if p then l else r) = z := by rw [if_pos h, e]

set_option maxHeartbeats 4000000 in
theorem gives_text16 {x : PySem.Str} {u k : Tok} {n : Int} (hall : x.cps.all (· < 128) = true) (hz : x.cps.toList.takeWhile (· != 0) = x.cps.toList) (hl : x.cps.toList.length ≤ 640)
    (hn : (int_private% "readNumeral") 0 16 x.cps.toList = (int_private% "Numeral.value") n) : Gives (Builtin.«int.__new__» ⟨[.type "int", .str x u, .int 16 k], []⟩) (.int n) :=
  .of_wp fun M A E s Q h => by
    obtain ⟨hp, g, d, tk, os⟩ := s
    have f1 := F.conv_sub_int
    have f2 := F.madeHere_int
    have f6 : typeOf (.str x u) = pure (.type "str") := rfl
    repeat (any_goals (first
      | assumption
      | ((with_reducible show wpAny _ _ ((int_private% "intFromText") _ _ _) _ _ _); refine wp_textB (by rw [if_pos hall, hz]; exact hl) (by rw [if_pos hall, hz]; exact hn) (by rw [if_pos hall, hz]; exact beq_self_eq_true _) ?_)
      | wp_step))
    all_goals first | exact ⟨_, rfl, h⟩ | skip

theorem typeCall_int_2 (a b : Value) : checkTypeCall "int" ⟨[a, b], []⟩ = pure () := by kernel_rfl
theorem newCall_int_2 (a b : Value) : checkBuiltinCall "int.__new__" ⟨[.type "int", a, b], []⟩ = pure () := by kernel_rfl
end

section
set_option maxRecDepth 100000

theorem args_init3 (obj a b : Value) : argsOk "object.__init__" ⟨[obj, a, b], []⟩ := by
  unfold argsOk
  kernel_rfl

theorem call_int16 {prog : Program} {w : World} {A : Around} {E : Value → Shared → Prop} {s : Shared} {Q : Value → Shared → Prop} {x : PySem.Str} {u k : Tok} {n : Int} (hall : x.cps.all (· < 128) = true) (hz : x.cps.toList.takeWhile (· != 0) = x.cps.toList) (hl : x.cps.toList.length ≤ 640)
    (hn : (int_private% "readNumeral") 0 16 x.cps.toList = (int_private% "Numeral.value") n) (h : Q (.int n s.toks) { s with toks := s.toks + 1 }) : wpAny (model prog w) A (call (.type "int") [.str x u, .int 16 k]) Q E s :=
  callType_new F.called_int F.newNe_int (typeCall_int_2 _ _) (newCall_int_2 _ _) (fun obj => args_init3 obj _ _) F.entry_int_new (gives_text16 hall hz hl hn).meets (show (Made.int n).post _ s from ⟨rfl, h⟩)

theorem sub_str : isSubtype (.type "str") (.type "str") = pure true := by rw [isSubtype_type]; kernel_rfl

set_option maxHeartbeats 4000000 in
theorem nested_str {prog : Program} {w : World} {A : Around} {E : Value → Shared → Prop} {s : Shared} {k : Value} {dep : Int} {tk : Tok} {Q : Fin → Shared → Prop} (hk : k = .int dep tk)
    (hq : Q (.done (.ret (.bool true))) s) :
    wpAny (model prog w) A (Builtin.«issubclass.nested» ⟨[.type "str", .type "str", k], []⟩) Q E s := by
  subst hk
  have f1 := sub_str
  have f2 : typeOf (.type "str") = pure (.type "type") := by kernel_rfl
  repeat (any_goals (first | assumption | wp_step))

theorem units_ok : True := trivial
end

section
set_option maxRecDepth 100000
theorem kind_nested : builtinKind "issubclass.nested" = none := by decide +kernel
theorem plain_nested : plainId "issubclass.nested" = true := by decide +kernel
theorem args_nested (a b c : Value) : argsOk "issubclass.nested" ⟨[a, b, c], []⟩ := by unfold argsOk; kernel_rfl

theorem nested_meets (k : Int) (tk : Tok) : Meets (Builtin.«issubclass.nested» ⟨[.type "str", .type "str", .int k tk], []⟩) (fun _ R s => R (.ok (.ret (.bool true))) s) :=
  fun _ _ _ _ _ hs => nested_str rfl hs
theorem call_nested {prog : Program} {w : World} {A : Around} {E : Value → Shared → Prop} {s : Shared} {k : Int} {tk : Tok} {Q : Value → Shared → Prop} (h : Q (.bool true) s) :
    wpAny (model prog w) A (call (.builtin "issubclass.nested") [.type "str", .type "str", .int k tk]) Q E s :=
  call_function_meets kind_nested plain_nested F.entry_issubclass_nested (args_nested _ _ _) (nested_meets k tk) h

set_option maxHeartbeats 4000000 in
theorem nested_tup {prog : Program} {w : World} {A : Around} {E : Value → Shared → Prop} {s : Shared} {D : Addr} {n : Nat} {y : Value} {Q : Fin → Shared → Prop}
    (hD : s.heap.get? D = some ({ cls := .type "tuple", data := .seq #[.type "str", y] n } : Obj))
    (hq : Q (.done (.ret (.bool true))) s) :
    wpAny (model prog w) A (Builtin.«issubclass.nested» ⟨[.type "str", .ref D, rawInt 0], []⟩) Q E s := by
  obtain ⟨hp, g, d, tk, os⟩ := s
  have f3 : isSubtype (.type "tuple") (.type "tuple") = pure true := by rw [isSubtype_type]; kernel_rfl
  repeat (any_goals (first | assumption | (refine call_nested ?_) | wp_step))


theorem issub_meets {D : Addr} {n : Nat} {y : Value} :
    Meets (Builtin.«issubclass» ⟨[.type "str", .ref D], []⟩) (fun _ R s => s.heap.get? D = some ({ cls := .type "tuple", data := .seq #[.type "str", y] n } : Obj) ∧ R (.ok (.ret (.bool true))) s) :=
  fun _ _ _ _ _ hs => issubclass_outer (nested_tup hs.1 hs.2)
theorem call_issub {prog : Program} {w : World} {A : Around} {E : Value → Shared → Prop} {s : Shared} {D : Addr} {n : Nat} {y : Value} {Q : Value → Shared → Prop}
    (hD : s.heap.get? D = some ({ cls := .type "tuple", data := .seq #[.type "str", y] n } : Obj)) (h : Q (.bool true) s) :
    wpAny (model prog w) A (call (.builtin "issubclass") [.type "str", .ref D]) Q E s :=
  call_issubclass issub_meets ⟨hD, h⟩
end

section
set_option maxRecDepth 100000
/-- a hex digit's code -/
def hx (d : Nat) : Nat := if d < 10 then 48 + d else 55 + d
def escS (c : Nat) : Str := ⟨#[61, hx (c / 16), hx (c % 16)]⟩

theorem slice_esc (a b : Nat) : Txt.slice ⟨#[61, a, b]⟩ (some 1) (some 3) = ⟨#[a, b]⟩ := by rfl

theorem num16_all : (List.range 129).map (fun k => (int_private% "readNumeral") 0 16 [hx ((127 + k) / 16), hx ((127 + k) % 16)]) = (List.range 129).map (fun k => (int_private% "Numeral.value") ((127 + k : Nat) : Int)) := by
  kernel_rfl
theorem num16 (c : Nat) (h1 : 127 ≤ c) (h2 : c < 256) : (int_private% "readNumeral") 0 16 [hx (c / 16), hx (c % 16)] = (int_private% "Numeral.value") (c : Int) := by
  have h := List.map_inj_left.mp num16_all (c - 127) (List.mem_range.mpr (by omega))
  rw [show 127 + (c - 127) = c by omega] at h
  exact h
theorem hx_lt (d : Nat) (h : d < 16) : 48 ≤ hx d ∧ hx d < 71 := by unfold hx; split <;> omega

theorem hx_lt16 {c : Nat} (h2 : c < 256) : (48 ≤ hx (c / 16) ∧ hx (c / 16) < 71) ∧ (48 ≤ hx (c % 16) ∧ hx (c % 16) < 71) := ⟨hx_lt _ (by omega), hx_lt _ (by omega)⟩
theorem call_unhex {prog : Program} {w : World} {A : Around} {E : Value → Shared → Prop} {s : Shared} {Q : Value → Shared → Prop} {u k : Tok} {c : Nat} (h1 : 127 ≤ c) (h2 : c < 256)
    (h : Q (.int (c : Int) s.toks) { s with toks := s.toks + 1 }) : wpAny (model prog w) A (call (.type "int") [.str (Txt.slice (escS c) (some 1) (some 3)) u, .int 16 k]) Q E s := by
  have hb := hx_lt16 h2
  have e : Txt.slice (escS c) (some 1) (some 3) = ⟨#[hx (c / 16), hx (c % 16)]⟩ := slice_esc _ _
  rw [e]
  refine call_int16 ?_ ?_ ?_ (num16 c h1 h2) h
  · have a1 : hx (c / 16) < 128 := by omega
    have a2 : hx (c % 16) < 128 := by omega
    simp [a1, a2]
  · have a1 : hx (c / 16) ≠ 0 := by omega
    have a2 : hx (c % 16) ≠ 0 := by omega
    simp [a1, a2]
  · exact (by decide : 2 ≤ 640)
theorem escS_length (c : Nat) : (escS c).length = 3 := rfl
end

section
set_option maxRecDepth 100000
set_option maxHeartbeats 4000000 in
theorem tl_list {prog : Program} {w : World} {A : Around} {E : Value → Shared → Prop} {s : Shared} {l : Addr} {items : Array Value} {c : Nat} {y : Str} {tk : Tok} {Q : Builtin.Str.Mapped → Shared → Prop}
    (hl : s.heap.IsList l items) (hc : c < 2 ^ 63) (hy : items[c]? = some (.str y tk)) (h : ∀ k, Q (.text y) { s with toks := k }) : wpAny (model prog w) A (Builtin.Str.tableLookup (.ref l) c) Q E s := by
  obtain ⟨hp, g, d, tk, os⟩ := s
  unfold Builtin.Str.tableLookup
  refine wpAny_bind (wpAny_attempt (wpAny_bind (wpAny_mkInt (wpAny_getItem_list hl (Int.natCast_nonneg c) (by omega) (by simpa using hy) ?_))))
  repeat (any_goals (first | assumption  | wp_step))
  all_goals exact h _

/-- n times the text y -/
def repS (n : Nat) (y : Str) : Str := ⟨(List.replicate n y.cps.toList).flatten.toArray⟩

theorem flat_length (l : List Nat) : ∀ n, (List.replicate n l).flatten.length = n * l.length
  | 0 => by simp
  | n + 1 => by rw [List.replicate_succ, List.flatten_cons, List.length_append, flat_length l n, Nat.succ_mul]; omega
theorem repS_length (n : Nat) (y : Str) : (repS n y).length = n * y.length := by
  show (List.replicate n y.cps.toList).flatten.toArray.size = _
  rw [List.size_toArray, flat_length]
  rfl

theorem foldl_reps (y : Str) : ∀ (n : Nat) (acc : Array Nat), (List.replicate n y).foldl (fun acc p => acc ++ p.cps) acc = acc ++ (List.replicate n y.cps.toList).flatten.toArray
  | 0, acc => by simp
  | n + 1, acc => by
    rw [List.replicate_succ, List.foldl_cons, foldl_reps y n, List.replicate_succ, List.flatten_cons]
    apply Array.ext'
    simp

set_option maxHeartbeats 4000000 in
theorem tr_list {prog : Program} {w : World} {A : Around} {E : Value → Shared → Prop} {s : Shared} {x : Str} {t : Tok} {l : Addr} {items : Array Value} {c n : Nat} {y : Str} {tk : Tok} {Q : Fin → Shared → Prop}
    (hl : s.heap.IsList l items) (hc : c < 2 ^ 63) (hy : items[c]? = some (.str y tk)) (hx : x.cps.toList = List.replicate n c) (hn : n ≠ 0) (hy2 : (y.length == 1) = false) (hsz : n * y.length ≤ sizeLine)
    (h : ∀ tk' k, Q (.done (.ret (.str (repS n y) tk'))) { s with toks := k }) : wpAny (model prog w) A (Builtin.«str.translate» ⟨[.str x t, .ref l], []⟩) Q E s := by
  obtain ⟨hp, g, d, tk, os⟩ := s
  have hx0 : (x.length == 0) = false := by
    have : x.length = n := by show x.cps.size = n; rw [← Array.length_toList, hx, List.length_replicate]
    rw [this]; simp [hn]
  wp_walk using (wpAny_forIn_array' _ (fun rest b s' => ∃ m k f, rest = List.replicate m c ∧ m + k = n ∧ b = (List.replicate k y, k * y.length, f, [], false) ∧ ∃ tk', s' = ⟨hp, g, d, tk', os⟩) _)
  case turn =>
    rintro x rest b s' ⟨m, k, f, hr, hm, rfl, tk', rfl⟩
    cases m with
    | zero => cases hr
    | succ m =>
      rw [List.replicate_succ] at hr
      obtain ⟨rfl, rfl⟩ := List.cons.inj hr
      have ht : Builtin.Str.tooLong (k * y.length) = false := by
        have : k * y.length ≤ n * y.length := Nat.mul_le_mul_right _ (by omega)
        unfold Builtin.Str.tooLong
        exact decide_eq_false (by omega)
      have hf : (y.length == 1 && y.cps.all fun x => decide (x < 128)) = false := by rw [hy2]; rfl
      have fin : ∀ (tk' : Tok), ∃ m' k' f', List.replicate m x = List.replicate m' x ∧ m' + k' = n ∧ (y :: List.replicate k y, k * y.length + y.length, false, ([] : List (Nat × Option Nat)), false) = (List.replicate k' y, k' * y.length, f', [], false) ∧ ∃ tk'', (⟨hp, g, d, tk', os⟩ : Shared) = ⟨hp, g, d, tk'', os⟩ :=
        fun tk' => ⟨m, k + 1, false, rfl, by omega, by rw [List.replicate_succ, Nat.succ_mul], tk', rfl⟩
      dsimp only
      rw [if_neg (by rw [ht]; exact Bool.false_ne_true)]
      cases f with
      | false =>
        repeat (any_goals (first | (with_reducible refine tl_list hl hc hy (fun tk' => ?_)) | wp_step))
        all_goals exact fin _
      | true =>
        repeat (any_goals (first | (with_reducible refine tl_list hl hc hy (fun tk' => ?_)) | wp_step | (simp only [hf, Bool.false_eq_true, if_false])))
        all_goals exact fin _
  case fin =>
    rintro b s' ⟨m, k, f, hr, hm, rfl, tk', rfl⟩
    cases m with
    | succ m => cases hr
    | zero =>
      obtain rfl : k = n := by omega
      have ht : Builtin.Str.tooLong (k * y.length) = false := by
        unfold Builtin.Str.tooLong
        exact decide_eq_false (by omega)
      dsimp only
      rw [if_neg (by rw [ht]; exact Bool.false_ne_true)]
      rw [List.reverse_replicate, foldl_reps]
      have e : (⟨#[] ++ (List.replicate k y.cps.toList).flatten.toArray⟩ : Str) = repS k y := by
        unfold repS
        rw [Array.empty_append]
      rw [e]
      unfold retStr
      refine wpAny_bind (wpAny_mkStr (wpAny_pure (h _ _)) ?_)
      rw [repS_length]
      exact hsz
  all_goals exact ⟨n, 0, x.cps.all (fun x => decide (x < 128)), hx, by omega, by simp, tk, rfl⟩

theorem tr_meets {x : Str} {t : Tok} {l : Addr} {c n : Nat} {y : Str} {tk : Tok} (hc : c < 2 ^ 63) (hx : x.cps.toList = List.replicate n c) (hn : n ≠ 0) (hy2 : (y.length == 1) = false) (hsz : n * y.length ≤ sizeLine) :
    Meets (Builtin.«str.translate» ⟨[.str x t, .ref l], []⟩) (fun _ R s => (∃ items, s.heap.IsList l items ∧ items[c]? = some (.str y tk)) ∧ ∀ tk' k, R (.ok (.ret (.str (repS n y) tk'))) { s with toks := k }) :=
  fun _ _ _ _ _ ⟨⟨_, hl, hy⟩, h⟩ => tr_list hl hc hy hx hn hy2 hsz h
theorem call_tr_list {prog : Program} {w : World} {A : Around} {E : Value → Shared → Prop} {s : Shared} {Q : Value → Shared → Prop} {x : Str} {t : Tok} {l : Addr} {items : Array Value} {c n : Nat} {y : Str} {tk : Tok} (hl : s.heap.IsList l items) (hy : items[c]? = some (.str y tk)) (hc : c < 2 ^ 63) (hx : x.cps.toList = List.replicate n c) (hn : n ≠ 0) (hy2 : (y.length == 1) = false) (hsz : n * y.length ≤ sizeLine)
    (h : ∀ tk' k, Q (.str (repS n y) tk') { s with toks := k }) : wpAny (model prog w) A (call (.builtin "str.translate") [.str x t, .ref l]) Q E s :=
  call_meets F.slot_str_translate (typeIs_str _ _ _) F.entry_str_translate (F.args_str_translate_2 _ _) (tr_meets hc hx hn hy2 hsz) ⟨⟨items, hl, hy⟩, h⟩
end

section
set_option maxRecDepth 100000
abbrev Keeps (h h' : Heap) : Prop := ∀ b o, h.get? b = some o → h'.get? b = some o
theorem fr_grow {h₀ h h' : Heap} {L : Addr} {m : Str → Option Value} (F : Fr h₀ L h m) (k : Keeps h h') : Fr h₀ L h' m :=
  let ⟨o, es, ep, ho, r⟩ := F.ns
  ⟨⟨o, es, ep, k _ _ ho, r⟩, fun b o e => k b o (F.keep b o e), F.above⟩
theorem news_grow {h₀ h h' : Heap} {L : Addr} {news : List (Addr × Obj)} (N : News h₀ L h news) (k : Keeps h h') : News h₀ L h' news :=
  fun p hp => ⟨k _ _ (N p hp).1, (N p hp).2.1, (N p hp).2.2⟩

theorem sub_keylook : isSubtype (.type "KeyError") (.type "LookupError") = pure true := by rw [isSubtype_type]; kernel_rfl

set_option maxHeartbeats 4000000 in
theorem tl_miss {prog : Program} {w : World} {A : Around} {E : Value → Shared → Prop} {s : Shared} {d : Addr} {D : List (PyData × PyData)} {c : Nat} {Q : Builtin.Str.Mapped → Shared → Prop}
    (T : IntTab prog w s.heap d D) (hl : PySem.Spec.lookup (PyData.int c) D = none) (hh : A.handled = none) (h : ∀ h' k, Keeps s.heap h' → Q .keep { s with heap := h', toks := k }) : wpAny (model prog w) A (Builtin.Str.tableLookup (.ref d) c) Q E s := by
  obtain ⟨lo, kvs, hd, hf⟩ := T
  unfold Builtin.Str.tableLookup
  refine wpAny_bind (wpAny_attempt (wpAny_bind (wpAny_mkInt (wpAny_getItem_missing_of (intKind_is prog w (c : Int) _) lo hh hd.mapOf (hf.none_of_lookup PyProof.V.same_int hl) (fun h' e hx => ?_)))))
  obtain ⟨hk, hn, ob, t, ho, hc, hdat⟩ := hx
  dsimp only
  refine wpAny_bind (wpAny_isInstance (T := "KeyError") (b := true) ⟨ob, ho, hc⟩ sub_keylook ?_)
  repeat (any_goals (first | assumption  | wp_step))
  all_goals exact h _ _ hk

set_option maxHeartbeats 4000000 in
theorem tr_one {prog : Program} {w : World} {A : Around} {E : Value → Shared → Prop} {s : Shared} {c : Nat} {t : Tok} {d : Addr} {D : List (PyData × PyData)} {Q : Fin → Shared → Prop}
    (T : IntTab prog w s.heap d D) (hl : PySem.Spec.lookup (PyData.int c) D = none) (hh : A.handled = none) (hc : c < 128)
    (h : ∀ tk' h' k, Keeps s.heap h' → Q (.done (.ret (.str ⟨#[c]⟩ tk'))) { s with heap := h', toks := k }) : wpAny (model prog w) A (Builtin.«str.translate» ⟨[.str ⟨#[c]⟩ t, .ref d], []⟩) Q E s := by
  have hx0 : ((⟨#[c]⟩ : Str).length == 0) = false := rfl
  wp_walk using (wpAny_forIn_array' _ (fun rest b s' => (rest = [c] ∧ b = ([], 0, true, [], false) ∧ s' = s) ∨ (rest = [] ∧ (∃ kn, b = ([⟨#[c]⟩], 1, true, kn, false)) ∧ ∃ h' k, Keeps s.heap h' ∧ s' = { s with heap := h', toks := k })) _)
  case turn =>
    rintro x rest b s' (⟨hr, rfl, rfl⟩ | ⟨hr, _⟩)
    · obtain ⟨rfl, rfl⟩ := List.cons.inj hr
      dsimp only
      rw [if_neg (by decide), if_pos rfl]
      repeat (any_goals (first | (with_reducible refine tl_miss T hl hh (fun h' k hk => ?_)) | wp_step | (exact .inr ⟨rfl, ⟨_, rfl⟩, _, _, by assumption, rfl⟩)))
    · cases hr
  case fin =>
    rintro b s' (⟨hr, _⟩ | ⟨hr, ⟨kn, rfl⟩, h', k, hk, rfl⟩)
    · cases hr
    · dsimp only
      rw [if_neg (by decide)]
      unfold retStr
      refine wpAny_bind (wpAny_mkStr (wpAny_pure ?_) (show (1 : Nat) ≤ sizeLine by decide))
      exact h _ _ _ hk
  all_goals exact .inl ⟨rfl, by simp [hc], rfl⟩
theorem tr1_meets {c : Nat} {t : Tok} {d : Addr} {D : List (PyData × PyData)} {prog : Program} {w : World} (hl : PySem.Spec.lookup (PyData.int c) D = none) (hc : c < 128) :
    MeetsIn prog w (Builtin.«str.translate» ⟨[.str ⟨#[c]⟩ t, .ref d], []⟩) (fun A R s => IntTab prog w s.heap d D ∧ A.handled = none ∧ ∀ tk' h' k, Keeps s.heap h' → R (.ok (.ret (.str ⟨#[c]⟩ tk'))) { s with heap := h', toks := k }) :=
  fun _ _ _ ⟨T, hh, h⟩ => tr_one T hl hh hc h
theorem call_tr_one {prog : Program} {w : World} {A : Around} {E : Value → Shared → Prop} {s : Shared} {c : Nat} {t : Tok} {d : Addr} {D : List (PyData × PyData)} {Q : Value → Shared → Prop}
    (T : IntTab prog w s.heap d D) (hl : PySem.Spec.lookup (PyData.int c) D = none) (hh : A.handled = none) (hc : c < 128)
    (h : ∀ tk' h' k, Keeps s.heap h' → Q (.str ⟨#[c]⟩ tk') { s with heap := h', toks := k }) : wpAny (model prog w) A (call (.builtin "str.translate") [.str ⟨#[c]⟩ t, .ref d]) Q E s :=
  call_meetsIn F.slot_str_translate (typeIs_str _ _ _) F.entry_str_translate (F.args_str_translate_2 _ _) (tr1_meets hl hc) ⟨T, hh, h⟩

/-- a sign that no pattern holds dear: = or a hex digit of ours -/
def okc (c : Nat) : Bool := c == 61 || (48 ≤ c && c ≤ 57) || (65 ≤ c && c ≤ 70)
theorem okc_hx {d : Nat} (h : d < 16) : okc (hx d) = true := (by decide : ∀ d : Fin 16, okc (hx d.val) = true) ⟨d, h⟩
theorem okc_lt {c : Nat} (h : okc c = true) : c < 128 := by
  unfold okc at h
  simp only [Bool.or_eq_true, Bool.and_eq_true, beq_iff_eq, decide_eq_true_eq] at h
  omega
theorem lookup_none {c : Int} : ∀ {D : List (Int × PyData)}, (∀ p ∈ D, p.1 ≠ c) → PySem.Spec.lookup (PyData.int c) (D.map fun p => (PyData.int p.1, p.2)) = none
  | [], _ => rfl
  | (i, d) :: D, h => by
    show (if PySem.Spec.same (PyData.int i) (PyData.int c) = true then some d else PySem.Spec.lookup (PyData.int c) (D.map fun p => (PyData.int p.1, p.2))) = none
    rw [PyProof.V.same_int, if_neg (by simpa using h (i, d) (.head _)), lookup_none fun p hp => h p (.tail _ hp)]
theorem keys_miss {c : Nat} (h : okc c = true) {D : List (Int × PyData)} (hD : (D.all fun p => decide (0 ≤ p.1) && !okc p.1.toNat) = true) : PySem.Spec.lookup (PyData.int c) (D.map fun p => (PyData.int p.1, p.2)) = none := by
  refine lookup_none fun p hp e => ?_
  have := List.all_eq_true.mp hD p hp
  rw [e] at this
  simp [h] at this
theorem call_tr_okc {prog : Program} {w : World} {A : Around} {E : Value → Shared → Prop} {s : Shared} {c : Nat} {t : Tok} {d : Addr} {D : List (Int × PyData)} {Q : Value → Shared → Prop} {h₀ : Heap} {L : Addr} {m : Str → Option Value} {news : List (Addr × Obj)}
    (T : KTD.Keyed h₀ d D) (hc : okc c = true) (hD : (D.all fun p => decide (0 ≤ p.1) && !okc p.1.toNat) = true) (F : Fr h₀ L s.heap m) (N : News h₀ L s.heap news) (hh : A.handled = none)
    (h : ∀ tk' h' k, Fr h₀ L h' m → News h₀ L h' news → Q (.str ⟨#[c]⟩ tk') { s with heap := h', toks := k }) : wpAny (model prog w) A (call (.builtin "str.translate") [.str ⟨#[c]⟩ t, .ref d]) Q E s :=
  call_tr_one (T.keep F.keep prog w) (keys_miss hc hD) hh (okc_lt hc) fun tk' h' k q => h tk' h' k (fr_grow F q) (news_grow N q)
end

section
set_option maxRecDepth 100000
theorem slot_md : Slot "method_descriptor" "__get__" "method_descriptor.__get__" :=
  .of (owner := "method_descriptor") (n := "__get__") (by rw [typeLookup_type, builtinLookup_eq_fast]; kernel_rfl) (by decide +kernel) (by decide +kernel) (by decide +kernel) (by decide +kernel) (by rw [isSubtype_type]; kernel_rfl)
theorem entry_md : entryFor table "method_descriptor.__get__" = some Builtin.«method_descriptor.__get__» := entryFor_of_tree (by kernel_rfl)
theorem args_md (a b c : Value) : argsOk "method_descriptor.__get__" ⟨[a, b, c], []⟩ := by unfold argsOk; kernel_rfl
theorem sub_ll : isSubtype (.type "list") (.type "list") = pure true := by rw [isSubtype_type]; kernel_rfl
set_option maxHeartbeats 4000000 in
theorem md_get {prog : Program} {w : World} {A : Around} {R : Result → Shared → Prop} {s : Shared} {a : Addr} {xs : Array Value} {k : Nat}
    (hx : s.heap.get? a = some { cls := .type "list", dict := none, data := .seq xs k })
    (h : R (.ok (.ret (.ref s.heap.objs.size))) { s with heap := s.heap.push { cls := .type "builtin_function_or_method", data := .fields #[.builtin "list.append", .ref a] } }) : codeAny (model prog w) A (.call (.builtin "method_descriptor.__get__") ⟨[.builtin "list.append", .ref a, .type "list"], []⟩) R s := by
  have hty : s.TypeIs (.builtin "list.append") "method_descriptor" := PySem.F.type_list_append
  refine codeAny_call_builtin slot_md.plain entry_md (slot_md.check _ _ _ _ _ _ _ _ hty (args_md _ _ _) ?_)
  obtain ⟨hp, g, d, tk, os⟩ := s
  have hT : (⟨hp, g, d, tk, os⟩ : Shared).TypeIs (.ref a) "list" := ⟨_, hx, rfl⟩
  have f1 := sub_ll
  have f7 : ".".intercalate ("list.append".cutAt '.').dropLast = "list" := by decide +kernel
  repeat (any_goals (first | assumption | wp_step))
  rw [f7]
  repeat (any_goals (first | assumption | wp_step))
  all_goals exact h
set_option maxHeartbeats 4000000 in
theorem ga_append (a : Addr) (xs : Array Value) (k : Nat) (u : Tok) :
    Meets (Builtin.«object.__getattribute__» ⟨[.ref a, .str "append" u], []⟩) (fun A R s => s.heap.get? a = some { cls := .type "list", dict := none, data := .seq xs k } ∧ R (.ok (.ret (.ref s.heap.objs.size))) { s with heap := s.heap.push { cls := .type "builtin_function_or_method", data := .fields #[.builtin "list.append", .ref a] } }) :=
  Meets.of_wp fun prog w A R s hs => by
    obtain ⟨hp, g, d, tk, os⟩ := s
    obtain ⟨hx, hs⟩ := hs
    have hT : (⟨hp, g, d, tk, os⟩ : Shared).TypeIs (.ref a) "list" := ⟨_, hx, rfl⟩
    have f1 := PySem.F.slot_list_append.lookup
    have f2 := PySem.F.slot_list_append.bind (.ref a)
    have f3 := PySem.F.type_list_append
    have f4 : typeLookup (.type "method_descriptor") "__get__" = pure (some (.builtin "method_descriptor.__get__")) := by rw [typeLookup_type, builtinLookup_eq_fast]; kernel_rfl
    have f5 : typeLookup (.type "method_descriptor") "__set__" = pure none := by rw [typeLookup_type, builtinLookup_eq_fast]; kernel_rfl
    have f6 : typeLookup (.type "method_descriptor") "__delete__" = pure none := by rw [typeLookup_type, builtinLookup_eq_fast]; kernel_rfl
    unfold Builtin.«object.__getattribute__»
    repeat (any_goals (first | assumption | wp_step))
    refine md_get hx ?_
    exact wpAny_pure ⟨_, rfl, hs⟩

theorem entry_lga : entryFor table "list.__getattribute__" = some Builtin.«object.__getattribute__» := am_entry_list_getattribute
set_option maxHeartbeats 4000000 in
theorem getAttr_append {prog : Program} {w : World} {A : Around} {E : Value → Shared → Prop} {s : Shared} {a : Addr} {xs : Array Value} {k : Nat} {Q : Value → Shared → Prop} {b : Bool}
    (hx : s.heap.get? a = some ({ cls := .type "list", data := .seq xs k } : Obj))
    (h : Q (.ref s.heap.objs.size) { s with heap := s.heap.push { cls := .type "builtin_function_or_method", data := .fields #[.builtin "list.append", .ref a] }, toks := s.toks + 1 }) : wpAny (model prog w) A (getAttr (.ref a) "append" b) Q E s := by
  obtain ⟨hp, g, d, tk, os⟩ := s
  have hT : ∀ tk', (⟨hp, g, d, tk', os⟩ : Shared).TypeIs (.ref a) "list" := fun _ => ⟨_, hx, rfl⟩
  have f3 := F.slot_list_getattribute.lookup
  have f4 := F.slot_list_getattribute.bind (.ref a)
  unfold getAttr getAttrBy
  have hb : (b && onTheHeap (Value.builtin "list.__getattribute__")) = false := by cases b <;> rfl
  repeat (any_goals (first | assumption | exact hT _ | (rw [if_neg (by rw [hb]; exact Bool.false_ne_true)]) | ((with_reducible show wpAny _ _ (call (Value.builtin "list.__getattribute__") _ _) _ _ _); refine call_meets F.slot_list_getattribute (hT _) am_entry_list_getattribute (F.args_list_getattribute_2 _ _) (ga_append a xs k _) ⟨hx, ?_⟩) | wp_step))
  all_goals (show wpAny _ _ (handedOut (Value.ref _)) _ _ _; exact wpAny_pure h)
end

section
set_option maxRecDepth 100000
abbrev bmObj (l : Addr) : Obj := { cls := .type "builtin_function_or_method", data := .fields #[.builtin "list.append", .ref l] }
set_option maxHeartbeats 4000000 in
theorem bm_check {prog : Program} {w : World} {A : Around} {E : Value → Shared → Prop} {s : Shared} {l : Addr} {xs : Array Value} {k : Nat} {x : Value} {Q : Unit → Shared → Prop}
    (hx : s.heap.get? l = some ({ cls := .type "list", data := .seq xs k } : Obj)) (h : Q () s) : wpAny (model prog w) A (checkBoundCall "list.append" ⟨[.ref l, x], []⟩) Q E s := by
  obtain ⟨hp, g, d, tk, os⟩ := s
  have hT : (⟨hp, g, d, tk, os⟩ : Shared).TypeIs (.ref l) "list" := ⟨_, hx, rfl⟩
  have f1 : isSubtype (.type "list") (.type "module") = pure false := by rw [isSubtype_type]; kernel_rfl
  have f2 : isSubtype (.type "list") (.type "type") = pure false := by rw [isSubtype_type]; kernel_rfl
  unfold checkBoundCall
  wp_walk
  all_goals exact h

set_option maxHeartbeats 4000000 in
theorem bm_code {prog : Program} {w : World} {A : Around} {R : Result → Shared → Prop} {s : Shared} {q l : Addr} {xs : Array Value} {k : Nat} {x : Value}
    (hq : s.heap.get? q = some (bmObj l)) (hx : s.heap.get? l = some ({ cls := .type "list", data := .seq xs k } : Obj))
    (h : ∀ h', Heap.SameBut l s.heap h' → h'.get? l = some { cls := .type "list", data := .seq (xs.push x) (k + 1) } → R (.ok (.ret .none)) { s with heap := h' }) (hsz : xs.size ≤ sizeLine) :
    codeAny (model prog w) A (.call (.ref q) ⟨[x], []⟩) R s := by
  refine codeAny_of_tree ?_
  show wpAny _ _ (callAny (.ref q) _) _ _ _
  refine nd_load hq ?_
  refine wpAny_bind (wpAny_pure ?_)
  dsimp only [bmObj]
  show wpAny _ _ (checkBoundCall "list.append" ⟨[.ref l, x], []⟩ >>= fun _ => again (Code.builtin "list.append" ⟨[.ref l, x], []⟩)) _ _ _
  refine wpAny_bind (bm_check hx ?_)
  refine wpAny_pure ⟨plainId_quiet slot_list_append.plain _, codeAny_builtin entry_list_append ?_⟩
  show wpAny _ _ (updateSeq l (·.push x) >>= fun _ => ret .none) _ _ s
  refine wpAny_bind ?_
  refine wpAny_updateSeq hx rfl (wpAny_pure (h _ (Heap.SameBut.update ..) ?_))
  rw [Heap.get?_update_self _ hx (by rw [mapSeq_push]; rfl), mapSeq_push]

theorem bm_append {prog : Program} {w : World} {A : Around} {E : Value → Shared → Prop} {s : Shared} {Q : Value → Shared → Prop} {q l : Addr} {its : Array Value} {n : Nat} {x : Value} {h₀ : Heap} {L : Addr} {m : Str → Option Value} {news news' : List (Addr × Obj)}
    (F : Fr h₀ L s.heap m) (N : News h₀ L s.heap news) (hq : (q, bmObj l) ∈ news) (U : Upd l (listOf its n) (listOf (its.push x) (n + 1)) news news')
    (h : ∀ h', Fr h₀ L h' m → News h₀ L h' news' → Q .none { s with heap := h' }) (hsz : its.size ≤ sizeLine) : wpAny (model prog w) A (call (.ref q) [x]) Q E s := by
  have Nq := N.get hq
  obtain ⟨pre, post, rfl, rfl, a, b⟩ := U.split
  have z := N (l, listOf its n) (List.mem_append.mpr (.inr (.head _)))
  exact wpAny_call (bm_code Nq z.1 (fun h' hs ho' => h h' (F.change hs z.2.1 z.2.2) (news_set N a b hs ho')) hsz)

theorem getAttr_appendN {prog : Program} {w : World} {A : Around} {E : Value → Shared → Prop} {s : Shared} {Q : Value → Shared → Prop} {l : Addr} {its : Array Value} {n : Nat} {h₀ : Heap} {L : Addr} {m : Str → Option Value} {news : List (Addr × Obj)} {b : Bool}
    (F : Fr h₀ L s.heap m) (N : News h₀ L s.heap news) (hl : (l, listOf its n) ∈ news)
    (h : ∀ q h', Fr h₀ L h' m → News h₀ L h' ((q, bmObj l) :: news) → (∀ p ∈ news, p.1 < q) → Q (.ref q) { s with heap := h', toks := s.toks + 1 }) : wpAny (model prog w) A (getAttr (.ref l) "append" b) Q E s :=
  getAttr_append (N.get hl) (h _ _ (F.push _) (N.push F _) fun p hp => Heap.lt_size (N p hp).1)
end

section
set_option maxRecDepth 100000
def BmP (q l : Addr) (h : Heap) : Prop := h.get? q = some (bmObj l)
theorem keeps_bm {M : Model} {q l : Addr} (h : Heap) (X : BmP q l h) : ∃ k, (k = Keeper.frame ∨ k = Keeper.machine ∨ k = Keeper.boundFrame) ∧ Looks M h (keeperOf (.ref q)) k :=
  ⟨.machine, .inr (.inl rfl), (Looks.ld (part := none) X).andThen .now⟩
theorem callWith_bm {M : Model} {A : Around} {E : Value → Shared → Prop} {s : Shared} {Q : Value → Shared → Prop} {pos : Pos} {first : List Value} {env : Env} {h₀ : Heap} {L : Addr} {news : List (Addr × Obj)} {q l : Addr} {e : Expr} {rest : List Expr} (_N : News h₀ L s.heap news) (_q : (q, bmObj l) ∈ news)
    (h : wpAny M A (spliced (backTo pos (starEach (e :: rest) env))) (fun vs s₁ => BmP q l s₁.heap ∧ wpAny M A (call (.ref q) (first ++ vs)) Q E s₁) E s)
    (he : starEach (e :: rest) env = (false, eval e env) :: starEach rest env := by rfl) (hplain : (backTo pos (starEach rest env)).any (·.1) = false := by rfl) :
    wpAny M A (callWith pos (.ref q) first (backTo pos (starEach (e :: rest) env)) []) Q E s := by
  rw [he] at h ⊢
  exact callWith_of (by show ((false || (backTo pos (starEach rest env)).any (·.1)) || false) = false; rw [hplain]; rfl) keeps_bm (evalArgs_plain h)
theorem bmP {h₀ : Heap} {L : Addr} {h : Heap} {news : List (Addr × Obj)} {q l : Addr} (N : News h₀ L h news) (hq : (q, bmObj l) ∈ news) : BmP q l h := N.get hq
theorem truthy_pos {prog : Program} {w : World} {A : Around} {E : Value → Shared → Prop} {s : Shared} {x : Str} {t : Tok} {Q : Bool → Shared → Prop} (h0 : 0 < x.length) (h1 : x.length < 1000000) (h : Q true { s with toks := s.toks + 1 + 1 }) : wpAny (model prog w) A (truthy (.str x t)) Q E s :=
  SBL.truthy (by omega) (by
    have : ((x.length : Int) != 0) = true := by simp; omega
    rw [this]; exact h)
def tabOk (items : List Value) : Bool := (List.range 129).all fun k => match items[127 + k]? with | some (.str y _) => y == escS (127 + k) | _ => false
theorem tabOk_get {items : List Value} (h : tabOk items = true) {c : Nat} (h1 : 127 ≤ c) (h2 : c < 256) : ∃ tk, items[c]? = some (.str (escS c) tk) := by
  have := List.all_eq_true.mp h (c - 127) (List.mem_range.mpr (by omega))
  rw [show 127 + (c - 127) = c by omega] at this
  split at this
  · rename_i y tk e
    exact ⟨tk, by rw [e, eq_of_beq this]⟩
  · cases this
theorem tr_tab {prog : Program} {w : World} {A : Around} {E : Value → Shared → Prop} {s : Shared} {Q : Value → Shared → Prop} {h₀ : Heap} {L : Addr} {m : Str → Option Value} {K : Frag} {a : Addr} {l : List Value} {nn : Nat} {dd : Option Addr} {sl : Array (Option Value)} {x : Str} {t : Tok} {c n : Nat}
    (F : Fr h₀ L s.heap m) (X₀ : K.In h₀) (hl : K.lookup a = some ⟨.type "list", dd, .seq l.toArray nn, sl⟩) (hk : tabOk l = true) (h1 : 127 ≤ c) (h2 : c < 256) (hx : x.cps.toList = List.replicate n c) (hn : 1 ≤ n) (hn2 : n ≤ 1000)
    (h : ∀ t' k, Q (.str (repS n (escS c)) t') { s with toks := k }) : wpAny (model prog w) A (call (.builtin "str.translate") [.str x t, .ref a]) Q E s := by
  obtain ⟨tk, hy⟩ := tabOk_get hk h1 h2
  exact call_tr_list (lstK (X₀.keeps F.keep) hl) (by simpa using hy) (by omega) hx (by omega) rfl (by rw [sizeLine_eq]; show n * 3 ≤ _; omega) h
end

section
set_option maxRecDepth 100000
open PySem.Builtin PySem.Builtin.Str PySem.StrLaws in
theorem ls_quiet (x : Str) (hb : ∀ c ∈ x.cps.toList, Unicode.isLineBreak c = false) : ∀ (l : List Nat), (∀ i ∈ l, i < x.length) → (Id.run (forIn (m := Id) l ((#[], 0) : LsSt) (lsBody x))) = (#[], 0)
  | [], _ => rfl
  | i :: l, h => by
    have hi := h i (.head _)
    have e : Unicode.isLineBreak (x.cps.getD i 0) = false := by
      have hi' : i < x.cps.size := hi
      have : x.cps.getD i 0 = x.cps[i] := by simp [Array.getD, hi']
      rw [this]
      exact hb _ (by simp)
    rw [List.forIn_cons]
    have eb : lsBody x i (#[], 0) = pure (ForInStep.yield (#[], 0)) := by
      unfold lsBody
      rw [e]; simp
    rw [eb]
    exact ls_quiet x hb l fun j hj => h j (.tail _ hj)
open PySem.Builtin PySem.Builtin.Str PySem.StrLaws in
theorem one_line {x : Str} (h0 : 0 < x.length) (hb : ∀ c ∈ x.cps.toList, Unicode.isLineBreak c = false) : lineCuts x = [(0, x.length)] := by
  unfold lineCuts
  rw [ls_eq, ls_quiet x hb _ (by intro i hi; simp at hi; omega)]
  unfold lsEnd
  rw [if_pos (by simpa using h0)]
  rfl
theorem splitlines_one {prog : Program} {w : World} {A : Around} {E : Value → Shared → Prop} {s : Shared} {Q : Value → Shared → Prop} {h₀ : Heap} {L : Addr} {m : Str → Option Value} {news : List (Addr × Obj)} {x : Str} {t : Tok} (F : Fr h₀ L s.heap m) (N : News h₀ L s.heap news)
    (h0 : 0 < x.length) (h1 : x.length ≤ 10000) (hb : ∀ c ∈ x.cps.toList, Unicode.isLineBreak c = false)
    (h : ∀ l h', Fr h₀ L h' m → News h₀ L h' ((l, listOf [Value.str x t].toArray 0) :: news) → (∀ p ∈ news, p.1 < l) → Q (.ref l) { s with heap := h' }) : wpAny (model prog w) A (call (.builtin "str.splitlines") [.str x t]) Q E s := by
  have e := one_line h0 hb
  refine call_meets PySem.F.slot_str_splitlines (typeIs_str _ _ _) PySem.F.entry_str_splitlines (PySem.F.args_str_splitlines_1 _) (meets_str_splitlines x t (by rw [sizeLine_eq]; omega) (by rw [e]; show (1 : Nat) ≤ sizeLine; decide)) ?_
  rw [if_pos (by rw [e]; simp)]
  exact h _ _ (F.push _) (N.push F _) fun p hp => Heap.lt_size (N p hp).1
theorem okc_break {c : Nat} (h : okc c = true) : Unicode.isLineBreak c = false := by
  have := (by decide +kernel : ∀ c : Fin 128, okc c.val = true → Unicode.isLineBreak c.val = false)
  exact this ⟨c, okc_lt h⟩ h
theorem okc_space {c : Nat} (h : okc c = true) : Unicode.isSpace c = false := by
  have := (by decide +kernel : ∀ c : Fin 128, okc c.val = true → Unicode.isSpace c.val = false)
  exact this ⟨c, okc_lt h⟩ h
theorem mem_reps {n : Nat} {y : Str} {c : Nat} (h : c ∈ (repS n y).cps.toList) : c ∈ y.cps.toList := by
  unfold repS at h
  simp only [List.mem_flatten] at h
  obtain ⟨l, hl, hc⟩ := h
  rw [List.eq_of_mem_replicate hl] at hc
  exact hc
theorem escs_ok {c : Nat} (h2 : c < 256) : ∀ d ∈ (escS c).cps.toList, okc d = true := by
  intro d hd
  simp only [escS, List.mem_cons, List.not_mem_nil, or_false] at hd
  rcases hd with rfl | rfl | rfl
  · rfl
  · exact okc_hx (by omega)
  · exact okc_hx (by omega)
theorem reps_ok {n c : Nat} (h2 : c < 256) : ∀ d ∈ (repS n (escS c)).cps.toList, okc d = true := fun d hd => escs_ok h2 d (mem_reps hd)
end

section
set_option maxRecDepth 100000
theorem mro_object : mroOf (.type "object") = pure [.type "object"] := by rw [mroOf_type]; kernel_rfl
theorem lookup_object_new : typeLookup (.type "object") "__new__" = pure (some (.builtin "object.__new__")) := by rw [typeLookup_type, builtinLookup_eq_fast]; kernel_rfl
theorem slot_object_init : Slot "object" "__init__" "object.__init__" :=
  .of (owner := "object") (n := "__init__") (by rw [typeLookup_type, builtinLookup_eq_fast]; kernel_rfl) (by decide +kernel) (by decide +kernel) (by decide +kernel) (by decide +kernel) (by rw [isSubtype_type]; kernel_rfl)
theorem called_object : TypeCalled "object" "object.__new__" "object.__init__" :=
  ⟨by decide +kernel, by decide +kernel, ⟨_, _, mro_object⟩, madeBy_type mro_object lookup_object_new (by decide +kernel), by decide +kernel, by rw [isSubtype_type]; kernel_rfl, slot_object_init⟩
theorem typeCall_object_0 : checkTypeCall "object" ⟨[], []⟩ = pure () := by kernel_rfl
theorem newCall_object_0 : checkBuiltinCall "object.__new__" ⟨[.type "object"], []⟩ = pure () := by kernel_rfl
theorem entry_object_new : entryFor table "object.__new__" = some Builtin.«object.__new__» := entryFor_of_tree (by kernel_rfl)
theorem entry_object_init : entryFor table "object.__init__" = some Builtin.«object.__init__» := entryFor_of_tree (by kernel_rfl)
theorem plain_object_new : plainId "object.__new__" = true := by decide +kernel
theorem args_object_init_1 (obj : Value) : argsOk "object.__init__" ⟨[obj], []⟩ := by unfold argsOk; kernel_rfl
theorem madeHere_object : Bind.madeHere "object.__new__" (.type "object") = pure () := by
  unfold Bind.madeHere
  have e : Bind.staticBase (.type "object") = pure (.type "object") := by first | rfl | kernel_rfl
  rw [e]
  simp only [pure_bind, called_object.made]
  first | rfl | kernel_rfl | (simp; rfl)
section
variable {prog : Program} {w : World} {A : Around} {E : Value → Shared → Prop} {s : Shared}
set_option maxHeartbeats 4000000 in
theorem code_object_new {Q₁ : Value → Shared → Prop}
    (h : Q₁ (.ref s.heap.objs.size) { s with heap := s.heap.push { cls := .type "object", dict := none, data := .plain } }) :
    codeAny (model prog w) A (.call (.builtin "object.__new__") ⟨[.type "object"], []⟩) (wants Q₁ E) s := by
  refine codeAny_of_tree ?_
  show wpAny _ A.in1 (do checkBuiltinCall "object.__new__" ⟨[.type "object"], []⟩; again (.builtin "object.__new__" ⟨[.type "object"], []⟩)) _ _ s
  refine wpAny_bind (wpAny_of_eq newCall_object_0 (wpAny_pure ⟨plainId_quiet plain_object_new _, codeAny_builtin entry_object_new ?_⟩))
  rw [Around.under_plainId plain_object_new _]
  have f1 := madeHere_object
  have f2 : ((Manifest.find? "object").elim false (·.mro.any fun t => (Manifest.find? t).elim false (·.noNew))) = false := by decide +kernel
  have f3 : typeHasDict (.type "object") = false := by decide +kernel
  have f4 : diesByItsTypesDel "object" = false := by decide +kernel
  unfold Builtin.«object.__new__»
  obtain ⟨hp, g, d, tk, os⟩ := s
  repeat (any_goals (first | assumption | wp_step))
theorem call_object {Q : Value → Shared → Prop}
    (h : ∀ k, Q (.ref s.heap.objs.size) { s with heap := s.heap.push { cls := .type "object", dict := none, data := .plain }, toks := k }) : wpAny (model prog w) A (call (.type "object") []) Q E s := by
  refine callType_codes (Q₁ := fun obj s₁ => obj = .ref s.heap.objs.size ∧ s₁ = { s with heap := s.heap.push { cls := .type "object", dict := none, data := .plain } }) called_object typeCall_object_0 entry_object_init (code_object_new ⟨rfl, rfl⟩) ?_
  rintro obj s₁ ⟨rfl, rfl⟩
  refine ⟨⟨_, Heap.get?_push_size _ rfl, rfl⟩, args_object_init_1 _, ?_⟩
  unfold Builtin.«object.__init__»
  have h' := h s.toks
  obtain ⟨hp, g, d, tk, os⟩ := s
  repeat (any_goals (first | assumption | wp_step))
  all_goals exact ⟨rfl, h'⟩
abbrev objP : Obj := { cls := .type "object", dict := none, data := .plain }
theorem call_objectN {Q : Value → Shared → Prop} {h₀ : Heap} {L : Addr} {m : Str → Option Value} {news : List (Addr × Obj)} (F : Fr h₀ L s.heap m) (N : News h₀ L s.heap news)
    (h : ∀ l h' k, Fr h₀ L h' m → News h₀ L h' ((l, objP) :: news) → (∀ p ∈ news, p.1 < l) → Q (.ref l) { s with heap := h', toks := k }) : wpAny (model prog w) A (call (.type "object") []) Q E s :=
  call_object fun k => h _ _ k (F.push _) (N.push F _) fun p hp => Heap.lt_size (N p hp).1
end
end

section
/-- the library's entering lemmas with the def's parts opened by constructor -/
def code_defL {prog : Program} {w : World} {A A₀ : Around} {s : Shared} {K : Frag} {L : Addr} {h₀ base : Heap} {m mg mb : Str → Option Value} {news : List (Addr × Obj)} {p : Program} {loose : List Str} {mean : ExcName → Option Value} {env : Env} {outer : List Env} {R : Result → Shared → Prop} {name qual : Str}
    {a1 a2 : List Arg} {a3 : Option Arg} {a4 : List Arg} {a5 : List (Option PySem.Expr)} {a6 : Option Arg} {a7 : List PySem.Expr} {b1 : Stmt} {b2 : List Stmt} {s1 : ScopeKind} {s2 : List (Str × NameKind)} {s3 s4 : Bool} {s5 : List (Str × PySem.Const)}
    {dV kV doc pm cdv ct oc : Value} {an od : Option Addr} {osl : Array (Option Value)} {f : Addr} {args : Args} {binds : List (Str × Value)} :=
  @code_def prog w A A₀ s K L h₀ base m mg mb news p loose mean env outer R name qual ⟨a1, a2, a3, a4, a5, a6, a7⟩ (b1 :: b2) ⟨s1, s2, s3, s4, s5⟩ dV kV doc pm cdv ct oc an od osl f args binds
def code_defCL {prog : Program} {w : World} {A A₀ : Around} {s : Shared} {K : Frag} {L : Addr} {h₀ base : Heap} {m mg mb : Str → Option Value} {news : List (Addr × Obj)} {p : Program} {loose : List Str} {mean : ExcName → Option Value} {env : Env} {outer : List Env} {R : Result → Shared → Prop} {name qual : Str}
    {a1 a2 : List Arg} {a3 : Option Arg} {a4 : List Arg} {a5 : List (Option PySem.Expr)} {a6 : Option Arg} {a7 : List PySem.Expr} {b1 : Stmt} {b2 : List Stmt} {s1 : ScopeKind} {s2 : List (Str × NameKind)} {s3 s4 : Bool} {s5 : List (Str × PySem.Const)}
    {dV kV doc pm cdv ct oc : Value} {an od : Option Addr} {osl : Array (Option Value)} {f : Addr} {args : Args} {binds : List (Str × Value)} :=
  @code_defC prog w A A₀ s K L h₀ base m mg mb news p loose mean env outer R name qual ⟨a1, a2, a3, a4, a5, a6, a7⟩ (b1 :: b2) ⟨s1, s2, s3, s4, s5⟩ dV kV doc pm cdv ct oc an od osl f args binds
end

section
set_option maxRecDepth 100000
/-- a halt: no line of the walk knows it -/
def Halt (P : Prop) : Prop := P
theorem Halt.mk {P : Prop} (h : Halt P) : P := h
theorem ne_of_lt_all {d : Addr} {news : List (Addr × Obj)} (h : ∀ p ∈ news, p.1 < d) : ∀ p ∈ news, p.1 ≠ d := fun p hp => Nat.ne_of_lt (h p hp)
theorem allLt_mem {d : Addr} (news : List (Addr × Obj)) : AllLt d news → ∀ p ∈ news, p.1 < d := by
  induction news with
  | nil => intro _ p hp; exact (List.not_mem_nil hp).elim
  | cons q r ih =>
    intro h p hp
    cases hp with
    | head => exact h.1
    | tail _ hp => exact ih h.2 p hp
theorem ne_of_allLt {d : Addr} {news : List (Addr × Obj)} (h : AllLt d news) : ∀ p ∈ news, p.1 ≠ d := ne_of_lt_all (allLt_mem news h)

/-- an array of texts -/
def Strs (its : Array Value) (texts : List Str) : Prop := ∃ l : List (Str × Tok), its = (strValues l).toArray ∧ l.map (·.1) = texts
theorem Strs.nil : Strs #[] [] := ⟨[], rfl, rfl⟩
theorem Strs.nil' : Strs [].toArray [] := ⟨[], rfl, rfl⟩
theorem Strs.push {its : Array Value} {texts : List Str} (h : Strs its texts) (y : Str) (t : Tok) : Strs (its.push (.str y t)) (texts ++ [y]) := by
  obtain ⟨l, rfl, rfl⟩ := h
  refine ⟨l ++ [(y, t)], ?_, by simp⟩
  simp [strValues]
theorem Strs.size {its : Array Value} {texts : List Str} (h : Strs its texts) : its.size = texts.length := by
  obtain ⟨l, rfl, rfl⟩ := h
  simp [strValues]

section
variable {prog : Program} {w : World} {A : Around} {E : Value → Shared → Prop} {s : Shared} {env : Env} {h₀ : Heap} {x : Str} {body : List Stmt} {Q : Flow → Shared → Prop}
/-- a for over a list of one item -/
theorem for_one {ax : Addr} {lo : Obj} {v : Value} {n : Nat} {m₀ : Str → Option Value} {news : List (Addr × Obj)}
    (hh : A.handled = none) (F : Fr h₀ env.locals s.heap m₀) (N : News h₀ env.locals s.heap news) (hm : (ax, lo) ∈ news) (hc : lo.cls = .type "list") (hd : lo.data = .seq [v].toArray n)
    (turn : ∀ (I : Addr) (it : Obj) (h : Heap) (tk : Nat), (∀ p ∈ news, p.1 < I) → Fr h₀ env.locals h (fun y => if y = x then some v else m₀ y) → News h₀ env.locals h ((I, it) :: news) →
      wpAny (model prog w) A (execs body env) (UnrPost h₀ env.locals { s with heap := h, toks := tk } I it (fun m' n' => (ax, lo) ∈ n' ∧ ∀ h tk, Fr h₀ env.locals h m' → News h₀ env.locals h n' → Q .next { s with heap := h, toks := tk }) Q) E { s with heap := h, toks := tk }) :
    wpAny (model prog w) A (pyIter (.ref ax)) (fun it s₂ => LoopAtV prog w A h₀ env x body Q E it s₂) E s :=
  iter_listUnr hh F N hm hc hd fun I hI => ListRest.succ fun it h tk _ F' N' => turn I it h tk hI F' N'

/-- a while: one name of worth, one of none, an object of the ledger -/
theorem while_1 {test : Expr} {body : List Stmt} {pos : Pos} {m : Str → Option Value} {L D : Addr} {v₀ : Value} {o₀ : Obj} {pre post : List (Addr × Obj)} (x₁ x₂ : Str) (P : Nat → Value → Obj → Prop) {n₀ : Nat}
    (F : Fr h₀ L s.heap m) (N : News h₀ L s.heap (pre ++ (D, o₀) :: post)) (hx : m x₁ = some v₀) (hP : P n₀ v₀ o₀)
    (turn : ∀ n v o (u : Str → Option Value) h tk, P n v o → Fr h₀ L h (fun z => if z = x₁ then some v else if z = x₂ then u z else m z) → News h₀ L h (pre ++ (D, o) :: post) →
      wpAny (model prog w) A (isTrue test env (eval test env)) (fun b s₂ =>
        if b = true then wpAny (model prog w) A (execs body env) (WhileStep h₀ L s (fun n m₁ news₁ => ∃ v o, ∃ u : Str → Option Value, m₁ = (fun z => if z = x₁ then some v else if z = x₂ then u z else m z) ∧ news₁ = pre ++ (D, o) :: post ∧ P n v o) n) E s₂ else Q .next s₂) E { s with heap := h, toks := tk })
    (hE : PassesOwn (model prog w) A env E) :
    wpAny (model prog w) A (exec (.While test body [] pos) env) Q E s := by
  refine While_inv (fun n m₁ news₁ => ∃ v o, ∃ u : Str → Option Value, m₁ = (fun z => if z = x₁ then some v else if z = x₂ then u z else m z) ∧ news₁ = pre ++ (D, o) :: post ∧ P n v o) (n₀ := n₀) F N ⟨v₀, o₀, m, ?_, rfl, hP⟩ ?_ hE
  · funext z
    by_cases h1 : z = x₁
    · rw [if_pos h1, h1, hx]
    · rw [if_neg h1]; split <;> rfl
  · rintro n m₁ news₁ h₁ tk₁ F₁ N₁ ⟨v, o, u, rfl, rfl, p⟩
    exact turn n v o u h₁ tk₁ p F₁ N₁
end
theorem map_step {a b : Str} {V S : Option Value} {w : Option Value} {u m : Str → Option Value} :
    (fun y => if y = a then V else if y = b then S else (if y = a then w else if y = b then u y else m y)) = (fun z => if z = a then V else if z = b then (fun _ => S) z else m z) := by
  funext z
  by_cases h1 : z = a
  · simp only [h1, if_true]
  · by_cases h2 : z = b
    · simp only [h1, h2, if_true, if_false]
    · simp only [h1, h2, if_false]
theorem Strs.pushR {its : Array Value} {i : Nat} {lb y : Str} (h : Strs its (List.replicate i lb)) (hy : y = lb) (t : Tok) : Strs (its.push (.str y t)) (List.replicate (i + 1) lb) := by
  subst hy
  have := h.push y t
  rwa [← List.replicate_succ'] at this
theorem join_N {prog : Program} {w : World} {A : Around} {E : Value → Shared → Prop} {s : Shared} {Q : Value → Shared → Prop} {h₀ : Heap} {L : Addr} {news : List (Addr × Obj)} {l : Addr} {its : Array Value} {nn : Nat} {z : Str} {t : Tok} {texts : List Str} {B : Nat}
    (N : News h₀ L s.heap news) (hl : (l, listOf its nn) ∈ news) (hS : Strs its texts) (hB : ∀ y ∈ texts, y.length ≤ B) (hb : texts.length * B + texts.length * z.length ≤ 16777216)
    (h : ∀ t' k, Q (.str (Txt.join z texts) t') { s with toks := k }) : wpAny (model prog w) A (call (.builtin "str.join") [.str z t, .ref l]) Q E s := by
  obtain ⟨ll, rfl, ht⟩ := hS
  exact SC.join (N.isList hl) ht (by unfold JoinOk; rw [StrLaws.joinFits hB hb]; rfl) h
theorem int_eq {a b : Int} {t : Tok} (h : a = b) : Value.int a t = Value.int b t := by rw [h]
end

section
set_option maxRecDepth 100000
abbrev rl (n : Nat) (l : List Nat) : List Nat := (List.replicate n l).flatten
theorem rl_succ (n : Nat) (l : List Nat) : rl (n + 1) l = l ++ rl n l := by unfold rl; rw [List.replicate_succ, List.flatten_cons]
theorem rl_add (a b : Nat) (l : List Nat) : rl (a + b) l = rl a l ++ rl b l := by
  induction a with
  | zero => rw [Nat.zero_add]; rfl
  | succ a ih => rw [show a + 1 + b = (a + b) + 1 by omega, rl_succ, rl_succ, ih, List.append_assoc]
theorem rl_length (n : Nat) (l : List Nat) : (rl n l).length = n * l.length := flat_length l n
theorem rl_drop {n p k : Nat} {l : List Nat} (hk : l.length = k) (h : p ≤ n) : (rl n l).drop (k * p) = rl (n - p) l := by
  obtain ⟨q, rfl⟩ := Nat.exists_eq_add_of_le h
  rw [rl_add, List.drop_left' (by rw [rl_length, hk, Nat.mul_comm]), Nat.add_sub_cancel_left]
theorem rl_take {n p k : Nat} {l : List Nat} (hk : l.length = k) (h : p ≤ n) : (rl n l).take (k * p) = rl p l := by
  obtain ⟨q, rfl⟩ := Nat.exists_eq_add_of_le h
  rw [rl_add, List.take_left' (by rw [rl_length, hk, Nat.mul_comm])]
theorem rl_get {n : Nat} {l : List Nat} (hk : l.length = 3) : ∀ {i : Nat}, i < 3 * n → (rl n l)[i]? = l[i % 3]? := by
  induction n with
  | zero => intro i h; omega
  | succ n ih =>
    intro i h
    rw [rl_succ]
    by_cases hi : i < 3
    · rw [List.getElem?_append_left (by omega), Nat.mod_eq_of_lt hi]
    · rw [List.getElem?_append_right (by omega), hk, ih (by omega)]
      congr 1
      omega
theorem reps_list (n : Nat) (y : Str) : (repS n y).cps.toList = rl n y.cps.toList := rfl
theorem str_of_list {x : Str} {l : List Nat} (h : x.cps.toList = l) : x = ⟨l.toArray⟩ := by
  cases x; rename_i a; cases a; simp at h; rw [h]
theorem str_ext {x y : Str} (h : x.cps.toList = y.cps.toList) : x = y := (str_of_list h).trans (by cases y; rename_i a; cases a; rfl)
theorem app_list (x y : Str) : (x ++ y).cps.toList = x.cps.toList ++ y.cps.toList := by
  rw [Str.cps_append, Array.toList_append]
theorem slice_list {x : Str} {i j : Int} (h : 0 ≤ i ∧ i ≤ j ∧ j ≤ x.cps.toList.length) : (Txt.slice x (some i) (some j)).cps.toList = (x.cps.toList.drop i.toNat).take (j - i).toNat := by
  rw [eq_of_beq (slice_closes h)]
theorem slice_upto {x : Str} {j : Int} (h : 0 ≤ j ∧ j ≤ x.cps.toList.length) : (Txt.slice x none (some j)).cps.toList = x.cps.toList.take j.toNat := by
  rw [eq_of_beq (slice_closes_to h)]
  simp
theorem slice_from {x : Str} {i : Int} (h0 : 0 ≤ i) (h2 : i ≤ x.length) : (Txt.slice x (some i) none).cps.toList = x.cps.toList.drop i.toNat := by
  rw [slice_from_eq h0 h2 rfl]
  simp only
  rw [List.take_of_length_le]
  rw [List.length_drop]
  have : x.cps.toList.length = x.length := by simp [Str.length]
  omega
section
variable {n p q c : Nat} {y : Str} {i j : Int}
theorem reps_len3 (hy : y.length = 3) : ((repS n y).length : Int) = 3 * n := by rw [repS_length, hy]; omega
theorem reps_llen (hy : y.length = 3) : ((repS n y).cps.toList.length : Int) = 3 * n := by
  have : (repS n y).cps.toList.length = (repS n y).length := by simp [Str.length]
  rw [this]; exact reps_len3 hy
theorem y_len3 (hy : y.length = 3) : y.cps.toList.length = 3 := by rw [Array.length_toList]; exact hy
theorem slice_rep (hy : y.length = 3) (h : p + q ≤ n) (hi : i = 3 * p) (hj : j = 3 * (p + q)) : Txt.slice (repS n y) (some i) (some j) = repS q y := by
  apply str_ext
  rw [slice_list (by rw [reps_llen hy]; omega), reps_list, reps_list]
  have e1 : i.toNat = 3 * p := by omega
  have e2 : (j - i).toNat = 3 * q := by omega
  rw [e1, e2, rl_drop (y_len3 hy) (by omega), rl_take (y_len3 hy) (by omega)]
theorem slice_repN (hy : y.length = 3) (h : p ≤ n) (hi : i = 3 * p) : Txt.slice (repS n y) (some i) none = repS (n - p) y := by
  apply str_ext
  rw [slice_from (by omega) (by rw [reps_len3 hy]; omega), reps_list, reps_list]
  have e1 : i.toNat = 3 * p := by omega
  rw [e1, rl_drop (y_len3 hy) (by omega)]
theorem slice_rep1 (h : p + q + 1 ≤ n) (hi : i = 3 * p) (hj : j = 3 * (p + q) + 1) : Txt.slice (repS n (escS c)) (some i) (some j) = repS q (escS c) ++ ⟨#[61]⟩ := by
  apply str_ext
  rw [slice_list (by rw [reps_llen rfl]; omega), app_list, reps_list, reps_list]
  have e1 : i.toNat = 3 * p := by omega
  have e2 : (j - i).toNat = 3 * q + 1 := by omega
  rw [e1, e2, rl_drop (y_len3 rfl) (by omega), List.take_add, rl_take (y_len3 rfl) (by omega), rl_drop (y_len3 rfl) (by omega)]
  congr 1
  obtain ⟨r, hr⟩ : ∃ r, n - p - q = r + 1 := ⟨n - p - q - 1, by omega⟩
  rw [hr, rl_succ]
  rfl
/-- the three signs of an escape -/
def tri (c r : Nat) : Nat := (escS c).cps.toList.getD r 0
theorem tri0 : tri c 0 = 61 := rfl
theorem tri1 : tri c 1 = hx (c / 16) := rfl
theorem tri2 : tri c 2 = hx (c % 16) := rfl
theorem tri_ok (h2 : c < 256) {r : Nat} (hr : r < 3) : okc (tri c r) = true := by
  rcases r with _ | _ | _ | r
  · rfl
  · exact okc_hx (by omega)
  · exact okc_hx (by omega)
  · omega
theorem item_rep (h0 : 0 ≤ i) (h1 : i < 3 * n) : Txt.item (repS n (escS c)) i = ⟨#[tri c (i.toNat % 3)]⟩ := by
  have e : Txt.charAt (repS n (escS c)) i = some (tri c (i.toNat % 3)) := by
    unfold Txt.charAt
    have e1 : seqIndex? i (repS n (escS c)).length = some i.toNat := by
      unfold seqIndex?
      have := reps_len3 (n := n) (y := escS c) rfl
      have e2 : (if i < 0 then i + ((repS n (escS c)).length : Int) else i) = i := if_neg (by omega)
      simp only [e2]
      rw [if_pos (by simp only [Bool.and_eq_true, decide_eq_true_eq]; omega)]
    rw [e1]
    show (repS n (escS c)).cps[i.toNat]? = _
    rw [← Array.getElem?_toList, reps_list, rl_get (y_len3 rfl) (by omega)]
    have hr : i.toNat % 3 < 3 := Nat.mod_lt _ (by decide)
    unfold tri
    rw [List.getD_eq_getElem?_getD, List.getElem?_eq_getElem (by rw [y_len3 rfl]; exact hr)]
    rfl
  unfold Txt.item
  rw [e]
  rfl
theorem item_last (h : 1 ≤ n) : Txt.item (repS n (escS c)) (-1) = ⟨#[hx (c % 16)]⟩ := by
  have e : Txt.item (repS n (escS c)) (-1) = Txt.item (repS n (escS c)) (3 * n - 1 : Int) := by
    unfold Txt.item Txt.charAt
    have : seqIndex? (-1) (repS n (escS c)).length = seqIndex? (3 * n - 1 : Int) (repS n (escS c)).length := by
      have hl := reps_len3 (n := n) (y := escS c) rfl
      unfold seqIndex?
      have e1 : (if (-1 : Int) < 0 then (-1 : Int) + ((repS n (escS c)).length : Int) else -1) = 3 * n - 1 := by rw [if_pos (by decide)]; omega
      have e2 : (if (3 * n - 1 : Int) < 0 then (3 * n - 1 : Int) + ((repS n (escS c)).length : Int) else (3 * n - 1 : Int)) = 3 * n - 1 := if_neg (by omega)
      simp only [e1, e2]
    rw [this]
  rw [e, item_rep (by omega) (by omega)]
  have : (3 * n - 1 : Int).toNat % 3 = 2 := by omega
  rw [this]
  rfl
theorem eq_sign {d : Nat} : ((⟨#[d]⟩ : Str) == Str.ofString "=") = decide (d = 61) := by
  have e : Str.ofString "=" = ⟨#[61]⟩ := by decide +kernel
  rw [e]
  by_cases h : d = 61
  · subst h; rfl
  · rw [decide_eq_false h]
    apply beq_eq_false_iff_ne.mpr
    intro q
    injection q with q
    injection q with q
    injection q with q
    exact h q
end
theorem sign_is {n c : Nat} {i : Int} (h0 : 0 ≤ i) (h1 : i < 3 * n) (hr : i.toNat % 3 = 0) : (Txt.item (repS n (escS c)) i == Str.ofString "=") = true := by
  rw [item_rep h0 h1, hr, eq_sign]; rfl
theorem okc_61 {d : Nat} (h : d < 16) : hx d ≠ 61 := by have := (by decide : ∀ d : Fin 16, hx d.val ≠ 61); exact this ⟨d, h⟩
theorem sign_no {n c : Nat} {i : Int} (h2 : c < 256) (h0 : 0 ≤ i) (h1 : i < 3 * n) (hr : i.toNat % 3 ≠ 0) : ¬ (Txt.item (repS n (escS c)) i == Str.ofString "=") = true := by
  rw [item_rep h0 h1, eq_sign]
  have : i.toNat % 3 = 1 ∨ i.toNat % 3 = 2 := by omega
  rcases this with e | e <;> rw [e]
  · have q := okc_61 (d := c / 16) (by omega); rw [tri1, decide_eq_false q]; exact Bool.false_ne_true
  · have q := okc_61 (d := c % 16) (by omega); rw [tri2, decide_eq_false q]; exact Bool.false_ne_true
theorem len_any {prog : Program} {w : World} {A : Around} {E : Value → Shared → Prop} {s : Shared} {x : Str} {t : Tok} {Q : Value → Shared → Prop} (h63 : (x.length : Int) < 9223372036854775808) (h : ∀ t' k, Q (.int x.length t') { s with toks := k }) : wpAny (model prog w) A (call (.builtin "len") [.str x t]) Q E s :=
  SBL.len h63 (h _ _)
theorem in_no {prog : Program} {w : World} {A : Around} {E : Value → Shared → Prop} {s : Shared} {x : Str} {t u : Tok} {n c : Nat} {Q : Value → Shared → Prop} (h2 : c < 256) (hn : 1 ≤ n) (hq : x.cps.toList.all (fun d => !okc d) = true) (h : Q (.bool false) s) :
    wpAny (model prog w) A (compareOp .In (.str (Txt.item (repS n (escS c)) (-1)) u) (.str x t)) Q E s := by
  refine PyProof.Rows.in_str ?_
  rw [item_last hn, StrLaws.found_one]
  have : ¬ hx (c % 16) ∈ x.cps.toList := fun hm => by
    have := List.all_eq_true.mp hq _ hm
    rw [okc_hx (by omega)] at this
    cases this
  rw [decide_eq_false this]
  exact h
theorem lit_eq : Str.ofString "=" = ⟨#[61]⟩ := by decide +kernel
/-- how many soft breaks: n signs, room a line, more over three for each -/
def brk (n room more : Nat) : Nat := (n - (more + 1) / 2) / room
theorem brk_le {n room more : Nat} : brk n room more ≤ n := Nat.le_trans (Nat.div_le_self _ _) (Nat.sub_le _ _)
theorem brk_step {n room more i p : Nat} (hr : 1 ≤ room) (hp : p = room * i) (h : p + room + (more + 1) / 2 ≤ n) : i + 1 ≤ brk n room more := by
  unfold brk
  refine (Nat.le_div_iff_mul_le (by omega)).mpr ?_
  have : (i + 1) * room = p + room := by rw [hp, Nat.add_mul, Nat.one_mul, Nat.mul_comm]
  omega
theorem brk_end {n room more i p : Nat} (hr : 1 ≤ room) (hp : p = room * i) (hi : i ≤ brk n room more) (h : n < p + room + (more + 1) / 2) : i = brk n room more := by
  refine Nat.le_antisymm hi (Nat.le_of_lt_succ ?_)
  unfold brk
  refine (Nat.div_lt_iff_lt_mul (by omega)).mpr ?_
  have : (i + 1) * room = p + room := by rw [hp, Nat.add_mul, Nat.one_mul, Nat.mul_comm]
  have hr' : (i.succ) * room = p + room := this
  omega
theorem brk_in {n room more i p : Nat} (hr : 1 ≤ room) (hp : p = room * i) (hi : i ≤ brk n room more) : p ≤ n - (more + 1) / 2 := by
  have := (Nat.le_div_iff_mul_le (by omega)).mp hi
  rw [hp, Nat.mul_comm]; exact this
/-- one line with its soft break -/
def lbS (c room : Nat) : Str := repS room (escS c) ++ ⟨#[61]⟩
/-- what body_encode gives -/
def bodyT (c n room more : Nat) (z : Str) : Str := Txt.join z (List.replicate (brk n room more) (lbS c room) ++ [repS (n - room * brk n room more) (escS c)])
theorem lbS_length (c room : Nat) : (lbS c room).length = 3 * room + 1 := by
  unfold lbS
  rw [Str.length_append, repS_length, escS_length]
  show room * 3 + 1 = _
  omega
theorem lines_len {c room n r i : Nat} (hr2 : room ≤ 12) (hn2 : n ≤ 12) : ∀ y ∈ List.replicate i (lbS c room) ++ [repS (n - r) (escS c)], y.length ≤ 37 := by
  intro y hy
  rcases List.mem_append.mp hy with h | h
  · rw [List.eq_of_mem_replicate h, lbS_length]; omega
  · rw [List.mem_singleton.mp h, repS_length, escS_length]; omega
theorem brk_end' {n room more i j p : Nat} (hr : 1 ≤ room) (hp : p = room * i) (hj : j + i = brk n room more) (h : n < p + room + (more + 1) / 2) : i = brk n room more := brk_end hr hp (by omega) h
theorem total_ok {k zl : Nat} (h1 : k ≤ 13) (h2 : zl ≤ 4) : k * 37 + k * zl ≤ 16777216 := by
  have := Nat.mul_le_mul h1 h2
  omega
end

section
set_option maxRecDepth 100000
/-- n times one sign -/
def sgn (n c : Nat) : Str := ⟨(List.replicate n c).toArray⟩
theorem sgn_length (n c : Nat) : (sgn n c).length = n := by unfold sgn Str.length; simp
theorem sgn_list (n c : Nat) : (sgn n c).cps.toList = List.replicate n c := rfl
theorem sgn_push (n c : Nat) : sgn n c ++ ⟨#[c]⟩ = sgn (n + 1) c := by
  apply str_ext
  rw [app_list, sgn_list, sgn_list, List.replicate_succ']
section
variable {prog : Program} {w : World} {A : Around} {E : Value → Shared → Prop} {s : Shared} {env : Env} {h₀ : Heap} {Q : Flow → Shared → Prop}
/-- a while: two names of worth, one of none; the ledger stays -/
theorem while_2 {test : Expr} {body : List Stmt} {pos : Pos} {m : Str → Option Value} {L : Addr} {v₀ v₁ : Value} {news : List (Addr × Obj)} (x₁ x₂ x₃ : Str) (P : Nat → Value → Value → Prop) {n₀ : Nat} (hne : x₂ ≠ x₁)
    (F : Fr h₀ L s.heap m) (N : News h₀ L s.heap news) (hx : m x₁ = some v₀) (hx2 : m x₂ = some v₁) (hP : P n₀ v₀ v₁)
    (turn : ∀ n v v' (u : Str → Option Value) h tk, P n v v' → Fr h₀ L h (fun z => if z = x₁ then some v else if z = x₂ then some v' else if z = x₃ then u z else m z) → News h₀ L h news →
      wpAny (model prog w) A (isTrue test env (eval test env)) (fun b s₂ =>
        if b = true then wpAny (model prog w) A (execs body env) (WhileStep h₀ L s (fun n m₁ news₁ => ∃ v v', ∃ u : Str → Option Value, m₁ = (fun z => if z = x₁ then some v else if z = x₂ then some v' else if z = x₃ then u z else m z) ∧ news₁ = news ∧ P n v v') n) E s₂ else Q .next s₂) E { s with heap := h, toks := tk })
    (hE : PassesOwn (model prog w) A env E) :
    wpAny (model prog w) A (exec (.While test body [] pos) env) Q E s := by
  refine While_inv (fun n m₁ news₁ => ∃ v v', ∃ u : Str → Option Value, m₁ = (fun z => if z = x₁ then some v else if z = x₂ then some v' else if z = x₃ then u z else m z) ∧ news₁ = news ∧ P n v v') (n₀ := n₀) F N ⟨v₀, v₁, m, ?_, rfl, hP⟩ ?_ hE
  · funext z
    by_cases h1 : z = x₁
    · rw [if_pos h1, h1, hx]
    · rw [if_neg h1]
      by_cases h2 : z = x₂
      · rw [if_pos h2, h2, hx2]
      · rw [if_neg h2]; split <;> rfl
  · rintro n m₁ news₁ h₁ tk₁ F₁ N₁ ⟨v, v', u, rfl, rfl, p⟩
    exact turn n v v' u h₁ tk₁ p F₁ N₁
end
/-- the frame's map behind a turn that stores x₃, x₂, x₁ -/
theorem map_321 {a b d : Str} {V W S : Option Value} {w1 w2 : Option Value} {u m : Str → Option Value} :
    (fun y => if y = a then V else if y = b then W else if y = d then S else (if y = a then w1 else if y = b then w2 else if y = d then u y else m y)) = (fun z => if z = a then V else if z = b then W else if z = d then (fun _ => S) z else m z) := by
  funext z
  by_cases h1 : z = a
  · simp only [h1, if_true]
  · by_cases h2 : z = b
    · simp only [h2, if_true, if_false]
    · by_cases h3 : z = d <;> simp only [h1, h2, h3, if_true, if_false]
theorem map_2123 {a b d : Str} {V W W' S : Option Value} {w1 w2 : Option Value} {u m : Str → Option Value} (hab : a ≠ b) :
    (fun y => if y = b then W else if y = a then V else if y = b then W' else if y = d then S else (if y = a then w1 else if y = b then w2 else if y = d then u y else m y)) = (fun z => if z = a then V else if z = b then W else if z = d then (fun _ => S) z else m z) := by
  funext z
  by_cases h1 : z = a
  · have h2 : ¬ z = b := fun e => hab (h1.symm.trans e)
    simp only [h1, if_true]
    rw [if_neg hab]
  · by_cases h2 : z = b
    · simp only [h2, if_true]
      rw [if_neg (fun e => hab e.symm)]
    · by_cases h3 : z = d
      · subst h3; simp only [h1, h2, if_true, if_false]
      · simp only [h1, h2, h3, if_false]
open PySem.Builtin.Str PySem.Builtin in
theorem strip_end {goes : Nat → Bool} {x : Str} (h : ∀ c ∈ x.cps.toList, goes c = false) : Txt.stripBy goes false true x = x := by
  have hr : ∀ l : List Nat, (∀ c ∈ l, goes c = false) → l.takeWhile goes = [] := by
    intro l hl
    cases l with
    | nil => rfl
    | cons a r => rw [List.takeWhile_cons, hl a (.head _)]; rfl
  have e := hr x.cps.toList.reverse (fun c hc => h c (List.mem_reverse.mp hc))
  unfold Txt.stripBy
  split
  · rfl
  · rename_i q
    exfalso
    apply q
    unfold stripSame stripLo stripHi
    simp [e, Str.length]

theorem rstrip_ok {prog : Program} {w : World} {A : Around} {E : Value → Shared → Prop} {s : Shared} {x : Str} {t : Tok} {Q : Value → Shared → Prop} (hx : ∀ c ∈ x.cps.toList, okc c = true) (hl : x.length ≤ 10000)
    (h : ∀ t' k, Q (.str x t') { s with toks := k }) : wpAny (model prog w) A (call (.builtin "str.rstrip") [.str x t]) Q E s := by
  refine SC.rstrip (fun t' k => ?_) (by rw [sizeLine_eq]; omega)
  have : Txt.rstrip x = x := strip_end fun c hc => okc_space (hx c hc)
  rw [this]; exact h t' k
theorem ne_sign {prog : Program} {w : World} {A : Around} {E : Value → Shared → Prop} {s : Shared} {n c : Nat} {i : Int} {t u : Tok} {Q : Value → Shared → Prop} (h0 : 0 ≤ i) (h1 : i < 3 * n) (hr : i.toNat % 3 = 0) (h : Q (.bool false) s) :
    wpAny (model prog w) A (compareOp .NotEq (.str (Txt.item (repS n (escS c)) i) t) (.str (Str.ofString "=") u)) Q E s := by
  refine PyProof.Rows.ne_str ?_
  have := sign_is (c := c) h0 h1 hr
  have e : (Txt.item (repS n (escS c)) i != Str.ofString "=") = false := by unfold bne; rw [this]; rfl
  rw [e]; exact h
def hexT : Str := Str.ofString "0123456789abcdefABCDEF"
theorem hx_hex {d : Nat} (h : d < 16) : hx d ∈ (Str.ofString "0123456789abcdefABCDEF").cps.toList := by
  have := (by decide +kernel : ∀ d : Fin 16, hx d.val ∈ (Str.ofString "0123456789abcdefABCDEF").cps.toList)
  exact this ⟨d, h⟩
theorem in_hex {prog : Program} {w : World} {A : Around} {E : Value → Shared → Prop} {s : Shared} {x : Str} {n c : Nat} {i : Int} {t u : Tok} {Q : Value → Shared → Prop} (hx : x.cps.toList = (Str.ofString "0123456789abcdefABCDEF").cps.toList) (h2 : c < 256) (h0 : 0 ≤ i) (h1 : i < 3 * n) (hr : i.toNat % 3 ≠ 0) (h : Q (.bool true) s) :
    wpAny (model prog w) A (compareOp .In (.str (Txt.item (repS n (escS c)) i) u) (.str x t)) Q E s := by
  refine PyProof.Rows.in_str ?_
  rw [item_rep h0 h1, StrLaws.found_one]
  have hm : tri c (i.toNat % 3) ∈ x.cps.toList := by
    rw [hx]
    have : i.toNat % 3 = 1 ∨ i.toNat % 3 = 2 := by omega
    rcases this with e | e <;> rw [e]
    · rw [tri1]; exact hx_hex (by omega)
    · rw [tri2]; exact hx_hex (by omega)
  rw [decide_eq_true hm]
  exact h
theorem notin_no {prog : Program} {w : World} {A : Around} {E : Value → Shared → Prop} {s : Shared} {x : Str} {t u : Tok} {n c : Nat} {Q : Value → Shared → Prop} (hn : 1 ≤ n) (hq : x.cps.toList.all (fun d => !okc d) = true) (h : Q (.bool true) s) :
    wpAny (model prog w) A (compareOp .NotIn (.str (Txt.item (repS n (escS c)) (-1)) u) (.str x t)) Q E s := by
  refine PyProof.Rows.notIn_str ?_
  rw [item_last hn, StrLaws.found_one]
  have : ¬ hx (c % 16) ∈ x.cps.toList := fun hm => by
    have := List.all_eq_true.mp hq _ hm
    rw [okc_hx (by omega)] at this
    cases this
  rw [decide_eq_false this]
  exact h
theorem slice_one {n c : Nat} {i j : Int} (h0 : 0 ≤ i) (hr : i.toNat % 3 = 0) (h1 : i + 3 ≤ 3 * n) (hj : j = i + 3) : Txt.slice (repS n (escS c)) (some i) (some j) = escS c := by
  obtain ⟨p, hp⟩ : ∃ p : Nat, i = 3 * p := ⟨i.toNat / 3, by omega⟩
  rw [slice_rep (p := p) (q := 1) rfl (by omega) hp (by omega)]
  exact str_ext (by rw [reps_list]; rfl)
theorem iadd_any {prog : Program} {w : World} {A : Around} {E : Value → Shared → Prop} {s : Shared} {x y : Str} {t u : Tok} {Q : Value → Shared → Prop} (hsz : x.length + y.length ≤ 10000) (h : ∀ t' k, Q (.str (x ++ y) t') { s with toks := k }) : wpAny (model prog w) A (inplaceOp .Add (.str x t) (.str y u)) Q E s :=
  PyProof.Rows.iadd_str h (by rw [sizeLine_eq]; omega)
theorem add_any {prog : Program} {w : World} {A : Around} {E : Value → Shared → Prop} {s : Shared} {x y : Str} {t u : Tok} {Q : Value → Shared → Prop} (hsz : x.length + y.length ≤ 10000) (h : ∀ t' k, Q (.str (x ++ y) t') { s with toks := k }) : wpAny (model prog w) A (binaryOp .Add (.str x t) (.str y u)) Q E s :=
  PyProof.Rows.add_str h (by rw [sizeLine_eq]; omega)
theorem one_length (d : Nat) : (⟨#[d]⟩ : Str).length = 1 := rfl
theorem nl_length : (Str.ofString "\n").length = 1 := by decide +kernel
def tabS (L : List Str) : Bool := (List.range 129).all fun k => L.getD (127 + k) Str.empty == escS (127 + k)
theorem tab_eq {c : Nat} (L : List Str) (hL : tabS L = true) (h1 : 127 ≤ c) (h2 : c < 256) : L.getD ((c : Nat) : Int).toNat Str.empty = escS c := by
  have := List.all_eq_true.mp hL (c - 127) (List.mem_range.mpr (by omega))
  rw [show 127 + (c - 127) = c by omega] at this
  rw [Int.toNat_natCast]
  exact eq_of_beq this
/-- what decode has behind q signs of r -/
def decD (r c q : Nat) : Str := if q = r then sgn r c ++ Str.ofString "\n" else sgn q c
theorem decD_zero {r c : Nat} (hr : 1 ≤ r) : Str.ofString "" = decD r c 0 := by
  have e : Str.ofString "" = ⟨#[]⟩ := by decide +kernel
  unfold decD
  rw [if_neg (by omega), e]
  rfl
theorem decD_lt {r c q : Nat} (h : q < r) : decD r c q = sgn q c := if_neg (by omega)
theorem decD_end {r c : Nat} : decD r c r = sgn r c ++ Str.ofString "\n" := if_pos rfl
theorem decD_length {r c q : Nat} (h : q ≤ r) : (decD r c q).length ≤ r + 1 := by
  unfold decD
  split
  · rw [Str.length_append, sgn_length, nl_length]; omega
  · rw [sgn_length]; omega
theorem str_eq {a b : Str} {t : Tok} (h : a = b) : Value.str a t = Value.str b t := by rw [h]
theorem nl_eq : Str.ofString "\n" = ⟨#[10]⟩ := by decide +kernel
open PySem.Builtin.Str PySem.Builtin in
theorem ends_nl (r c : Nat) : Txt.endswith (sgn r c ++ Str.ofString "\n") (Str.ofString "\n") = true := by
  have hl : (sgn r c ++ Str.ofString "\n").length = r + 1 := by rw [Str.length_append, sgn_length, nl_length]
  unfold Txt.endswith
  rw [hl, nl_length]
  simp only [Bool.and_eq_true, decide_eq_true_eq]
  refine ⟨by omega, ?_⟩
  unfold subAt
  rw [nl_length, nl_eq]
  rw [Nat.add_sub_cancel]
  have : ((sgn r c ++ (⟨#[10]⟩ : Str)).cps.extract r (r + 1)) = #[10] := by
    apply Array.ext'
    rw [Array.toList_extract, app_list, sgn_list]
    simp [List.extract]
  rw [this]; rfl
theorem call_ends {prog : Program} {w : World} {A : Around} {E : Value → Shared → Prop} {s : Shared} {r c : Nat} {t u : Tok} {Q : Value → Shared → Prop} (h : Q (.bool true) s) :
    wpAny (model prog w) A (call (.builtin "str.endswith") [.str (sgn r c ++ Str.ofString "\n") t, .str (Str.ofString "\n") u]) Q E s :=
  SC.endswith (by rw [ends_nl]; exact h)
theorem slice_cut (r c : Nat) {j : Int} (hj : j = -1) : Txt.slice (sgn r c ++ Str.ofString "\n") none (some j) = sgn r c := by
  subst hj
  have hl : (sgn r c ++ Str.ofString "\n").length = r + 1 := by rw [Str.length_append, sgn_length, nl_length]
  have e := eq_of_beq (slice_closes_to_neg (x := sgn r c ++ Str.ofString "\n") (j := -1) (k := r) (by decide) (by rw [hl]; omega) (by rw [hl]; omega))
  rw [e]
  apply str_ext
  rw [app_list, sgn_list]
  simp
end

section
set_option maxRecDepth 100000
/-- a list of values that are texts -/
def Vals (r : List Value) (ts : List Str) : Prop := ∃ l : List (Str × Tok), r = strValues l ∧ l.map (·.1) = ts
theorem Vals.cons {r : List Value} {a : Str} {ts : List Str} (h : Vals r (a :: ts)) : ∃ t r', r = Value.str a t :: r' ∧ Vals r' ts := by
  obtain ⟨l, rfl, e⟩ := h
  obtain ⟨t, l', rfl, e2⟩ := KSpl.cons_of e
  exact ⟨t, strValues l', rfl, l', rfl, e2⟩
theorem Vals.nil {r : List Value} (h : Vals r []) : r = [] := by
  obtain ⟨l, rfl, e⟩ := h
  rw [KSpl.nil_of e]; rfl
section
variable {prog : Program} {w : World} {A : Around} {E : Value → Shared → Prop} {s : Shared} {env : Env} {h₀ : Heap} {x : Str} {body : List Stmt} {Q : Flow → Shared → Prop}
theorem unr_mono {L I : Addr} {it : Obj} {r₁ r₂ : (Str → Option Value) → List (Addr × Obj) → Prop} (h : ∀ m n, r₁ m n → r₂ m n) {f : Flow} {s₂ : Shared} (p : UnrPost h₀ L s I it r₁ Q f s₂) : UnrPost h₀ L s I it r₂ Q f s₂ := by
  have key : UnrEnd h₀ L s I it r₁ s₂ → UnrEnd h₀ L s I it r₂ s₂ := by
    rintro ⟨h', tk, m', n', e, F, N, o, q⟩
    exact ⟨h', tk, m', n', e, F, N, o, h _ _ q⟩
  cases f with
  | ret v => exact p
  | brk => exact p
  | next => exact key p
  | cont => exact key p
/-- a for over a list with what holds between the turns -/
theorem for_inv {ax : Addr} {lo : Obj} {vs : List Value} {n : Nat} {m₀ : Str → Option Value} {news : List (Addr × Obj)} (J : List Value → (Str → Option Value) → List (Addr × Obj) → Prop)
    (hh : A.handled = none) (F : Fr h₀ env.locals s.heap m₀) (N : News h₀ env.locals s.heap news) (hm : (ax, lo) ∈ news) (hc : lo.cls = .type "list") (hd : lo.data = .seq vs.toArray n) (hJ : J vs m₀ news)
    (turn : ∀ (I : Addr) (v : Value) (r : List Value) (m₁ : Str → Option Value) (n₁ : List (Addr × Obj)) (it : Obj) (h : Heap) (tk : Nat), (∀ p ∈ news, p.1 < I) → J (v :: r) m₁ n₁ → it.cls = .type "list_iterator" →
      Fr h₀ env.locals h (fun y => if y = x then some v else m₁ y) → News h₀ env.locals h ((I, it) :: n₁) →
      wpAny (model prog w) A (execs body env) (UnrPost h₀ env.locals { s with heap := h, toks := tk } I it (fun m' n' => (ax, lo) ∈ n' ∧ J r m' n') Q) E { s with heap := h, toks := tk })
    (last : ∀ (m₁ : Str → Option Value) (n₁ : List (Addr × Obj)) (h : Heap) (tk : Nat), J [] m₁ n₁ → Fr h₀ env.locals h m₁ → News h₀ env.locals h n₁ → Q .next { s with heap := h, toks := tk }) :
    wpAny (model prog w) A (pyIter (.ref ax)) (fun it s₂ => LoopAtV prog w A h₀ env x body Q E it s₂) E s := by
  refine iter_listUnr hh F N hm hc hd fun I hI => ?_
  have key : ∀ (r : List Value) (m₁ : Str → Option Value) (n₁ : List (Addr × Obj)), J r m₁ n₁ → ListRest prog w A E h₀ env x body Q s I (ax, lo) r m₁ n₁ := by
    intro r
    induction r with
    | nil => exact fun m₁ n₁ j => ListRest.zero fun h tk F' N' => last m₁ n₁ h tk j F' N'
    | cons v r ih =>
      intro m₁ n₁ j
      refine ListRest.succ fun it h tk hit F' N' => ?_
      exact wpAny_mono (turn I v r m₁ n₁ it h tk hI j hit F' N') (fun f s₂ p => unr_mono (fun m n q => ⟨q.1, ih m n q.2⟩) p) fun _ _ e => e
  exact key vs m₀ news hJ
end
/-- the parts of a path: b lines that are left again, then the rest -/
def pp (lb rest : Str) : Nat → List Str
  | 0 => [rest]
  | b + 1 => lb :: Str.ofString ".." :: pp lb rest b
def St (lb rest : Str) (ts texts : List Str) : Prop :=
  (∃ b, ts = pp lb rest b ∧ texts = []) ∨ (∃ b, ts = Str.ofString ".." :: pp lb rest b ∧ texts = [lb]) ∨ (ts = [] ∧ texts = [rest])
theorem ne_len {x y : Str} (h : x.length ≠ y.length) : (x == y) = false := beq_eq_false_iff_ne.mpr fun e => h (by rw [e])
end

section
set_option maxRecDepth 100000
section
variable {prog : Program} {w : World} {A : Around} {E : Value → Shared → Prop} {s : Shared} {env : Env} {h₀ : Heap} {x : Str} {body : List Stmt} {Q : Flow → Shared → Prop}
/-- a for over a list that fills one list -/
theorem for_acc {ax D : Addr} {lo : Obj} {vs : List Value} {n : Nat} {m₀ : Str → Option Value} {post : List (Addr × Obj)} {its₀ : Array Value} {nn₀ : Nat} (P : List Value → Array Value → Prop)
    (hh : A.handled = none) (F : Fr h₀ env.locals s.heap m₀) (N : News h₀ env.locals s.heap ((D, listOf its₀ nn₀) :: post)) (hm : (ax, lo) ∈ post) (hc : lo.cls = .type "list") (hd : lo.data = .seq vs.toArray n) (hP : P vs its₀)
    (turn : ∀ (I : Addr) (v : Value) (r : List Value) (its : Array Value) (nn : Nat) (it : Obj) (h : Heap) (tk : Nat), (∀ p ∈ (D, listOf its₀ nn₀) :: post, p.1 < I) → P (v :: r) its → it.cls = .type "list_iterator" →
      Fr h₀ env.locals h (fun y => if y = x then some v else m₀ y) → News h₀ env.locals h ((I, it) :: (D, listOf its nn) :: post) →
      wpAny (model prog w) A (execs body env) (UnrPost h₀ env.locals { s with heap := h, toks := tk } I it (fun m' n' => (ax, lo) ∈ n' ∧ ∃ (its : Array Value) (nn : Nat) (u : Str → Option Value), m' = (fun z => if z = x then u z else m₀ z) ∧ n' = (D, listOf its nn) :: post ∧ P r its) Q) E { s with heap := h, toks := tk })
    (last : ∀ (its : Array Value) (nn : Nat) (u : Str → Option Value) (h : Heap) (tk : Nat), P [] its → Fr h₀ env.locals h (fun z => if z = x then u z else m₀ z) → News h₀ env.locals h ((D, listOf its nn) :: post) → Q .next { s with heap := h, toks := tk }) :
    wpAny (model prog w) A (pyIter (.ref ax)) (fun it s₂ => LoopAtV prog w A h₀ env x body Q E it s₂) E s := by
  refine for_inv (fun r m₁ n₁ => ∃ (its : Array Value) (nn : Nat) (u : Str → Option Value), m₁ = (fun z => if z = x then u z else m₀ z) ∧ n₁ = (D, listOf its nn) :: post ∧ P r its) hh F N (List.Mem.tail _ hm) hc hd ⟨its₀, nn₀, m₀, ?_, rfl, hP⟩ ?_ ?_
  · funext z; split <;> rfl
  · rintro I v r m₁ n₁ it h tk hI ⟨its, nn, u, rfl, rfl, p⟩ hit F' N'
    refine turn I v r its nn it h tk hI p hit ?_ N'
    have e : (fun y => if y = x then some v else if y = x then u y else m₀ y) = (fun y => if y = x then some v else m₀ y) := by
      funext y; by_cases h1 : y = x <;> simp only [h1, if_true, if_false]
    rw [← e]; exact F'
  · rintro m₁ n₁ h tk ⟨its, nn, u, rfl, rfl, p⟩ F' N'
    exact last its nn u h tk p F' N'
end
theorem Strs.inv0 {its : Array Value} (h : Strs its []) : its = #[] := by
  obtain ⟨l, rfl, e⟩ := h
  rw [KSpl.nil_of e]; rfl
theorem Strs.inv1 {its : Array Value} {y : Str} (h : Strs its [y]) : ∃ t, its = #[.str y t] := by
  obtain ⟨l, rfl, e⟩ := h
  obtain ⟨t, l', rfl, e2⟩ := KSpl.cons_of e
  rw [KSpl.nil_of e2]; exact ⟨t, rfl⟩
theorem Strs.one (y : Str) (t : Tok) : Strs #[.str y t] [y] := ⟨[(y, t)], rfl, rfl⟩
def PN (lb rest : Str) (r : List Value) (its : Array Value) : Prop := ∃ ts texts, Vals r ts ∧ Strs its texts ∧ St lb rest ts texts
theorem PN.start {lb rest : Str} {l : List (Str × Tok)} {b : Nat} (h : l.map (·.1) = pp lb rest b) : PN lb rest (strValues l) #[] :=
  ⟨_, _, ⟨l, rfl, h⟩, Strs.nil, .inl ⟨b, rfl, rfl⟩⟩
theorem PN.step {lb rest : Str} {v : Value} {r : List Value} {its : Array Value} (hl : 3 ≤ lb.length) (hr : 3 ≤ rest.length) (hl2 : lb.length ≤ 100) (hr2 : rest.length ≤ 100) (h : PN lb rest (v :: r) its) :
    (its = #[] ∧ ∃ y t, v = .str y t ∧ 3 ≤ y.length ∧ y.length ≤ 100 ∧ PN lb rest r #[.str y t]) ∨ (∃ t t', its = #[.str lb t] ∧ v = .str (Str.ofString "..") t' ∧ PN lb rest r #[]) := by
  obtain ⟨ts, texts, V, S, ⟨b, rfl, rfl⟩ | ⟨b, rfl, rfl⟩ | ⟨rfl, rfl⟩⟩ := h
  · refine .inl ⟨S.inv0, ?_⟩
    cases b with
    | zero =>
      obtain ⟨t, r', e, V'⟩ := Vals.cons V
      injection e with e1 e2
      subst e1 e2
      exact ⟨_, t, rfl, hr, hr2, _, _, V', Strs.one _ _, .inr (.inr ⟨rfl, rfl⟩)⟩
    | succ b =>
      obtain ⟨t, r', e, V'⟩ := Vals.cons V
      injection e with e1 e2
      subst e1 e2
      exact ⟨_, t, rfl, hl, hl2, _, _, V', Strs.one _ _, .inr (.inl ⟨b, rfl, rfl⟩)⟩
  · obtain ⟨t, r', e, V'⟩ := Vals.cons V
    injection e with e1 e2
    subst e1 e2
    obtain ⟨t2, e3⟩ := S.inv1
    exact .inr ⟨t2, t, e3, rfl, _, _, V', Strs.nil, .inl ⟨b, rfl, rfl⟩⟩
  · have := Vals.nil V; cases this
theorem PN.last {lb rest : Str} {its : Array Value} (h : PN lb rest [] its) : ∃ t, its = #[.str rest t] := by
  obtain ⟨ts, texts, V, S, ⟨b, rfl, rfl⟩ | ⟨b, rfl, rfl⟩ | ⟨rfl, rfl⟩⟩ := h
  · cases b <;> (obtain ⟨t, r', e, V'⟩ := Vals.cons V; cases e)
  · obtain ⟨t, r', e, V'⟩ := Vals.cons V; cases e
  · exact S.inv1
end

section
set_option maxRecDepth 100000
/-- what stands in _translate's list for one sign: the star's own object, or the sign -/
def Item (S : Addr) (v : Value) (c : Nat) : Prop := (c = 42 ∧ v = .ref S) ∨ (c ≠ 42 ∧ ∃ t, v = .str ⟨#[c]⟩ t)
def Row (S : Addr) (its : Array Value) (l : List Nat) : Prop := its.size = l.length ∧ ∀ (i c : Nat), (l[i]? : Option Nat) = some c → ∃ v : Value, (its[i]? : Option Value) = some v ∧ Item S v c
theorem Row.nil (S : Addr) : Row S #[] [] := ⟨rfl, fun i c h => by simp at h⟩
theorem Row.push {S : Addr} {its : Array Value} {l : List Nat} {v : Value} {c : Nat} (h : Row S its l) (hv : Item S v c) : Row S (its.push v) (l ++ [c]) := by
  refine ⟨by rw [Array.size_push, List.length_append, h.1]; rfl, fun i d hi => ?_⟩
  by_cases hl : i < l.length
  · rw [List.getElem?_append_left hl] at hi
    obtain ⟨u, hu, hi2⟩ := h.2 i d hi
    refine ⟨u, ?_, hi2⟩
    rw [Array.getElem?_push_lt (by rw [h.1]; exact hl)]
    rw [Array.getElem?_eq_getElem (by rw [h.1]; exact hl)] at hu
    exact hu
  · rw [List.getElem?_append_right (by omega)] at hi
    have h0 : i - l.length = 0 := by
      by_cases h1 : i - l.length = 0
      · exact h1
      · rw [List.getElem?_eq_none (by simp; omega)] at hi; cases hi
    rw [h0] at hi
    injection hi with hi
    subst hi
    refine ⟨v, ?_, hv⟩
    have : i = its.size := by rw [h.1]; omega
    rw [this, Array.getElem?_push_size]
theorem item_at {X : Str} {q c : Nat} (h : X.cps.toList[q]? = some c) : Txt.item X (q : Int) = ⟨#[c]⟩ := by
  have hl : q < X.length := by
    have := (List.getElem?_eq_some_iff.mp h).1
    simpa [Str.length] using this
  have e : Txt.charAt X (q : Int) = some c := by
    unfold Txt.charAt
    have e1 : seqIndex? (q : Int) X.length = some q := by
      unfold seqIndex?
      have e2 : (if (q : Int) < 0 then (q : Int) + (X.length : Int) else (q : Int)) = q := if_neg (by omega)
      simp only [e2]
      rw [if_pos (by simp only [Bool.and_eq_true, decide_eq_true_eq]; omega)]
      rfl
    rw [e1]
    show X.cps[q]? = _
    rw [← Array.getElem?_toList, h]
  unfold Txt.item
  rw [e]; rfl
theorem one_eq {c d : Nat} : ((⟨#[c]⟩ : Str) == ⟨#[d]⟩) = decide (c = d) := by
  by_cases h : c = d
  · subst h; simp
  · rw [decide_eq_false h]
    apply beq_eq_false_iff_ne.mpr
    intro q
    injection q with q
    injection q with q
    injection q with q
    exact h q
section
variable {prog : Program} {w : World} {A : Around} {E : Value → Shared → Prop} {s : Shared} {h₀ : Heap} {L l : Addr} {news : List (Addr × Obj)} {its : Array Value} {nn : Nat} {u : Tok} {v : Value}
theorem item_row {value slice : Expr} {q : Nat} {k : Int} {Q : Value → Shared → Prop} (N : News h₀ L s.heap news) (hm : (l, listOf its nn) ∈ news) (hx : (its[q]? : Option Value) = some v) (hk : k = (q : Int)) (hz : q < 100000) (h : Q v s)
    (hs : subscripted slice false (.ref l) (.int k u) = operate [.ref l, .int k u] (getItem (.ref l) (.int k u)) := by with_unfolding_all rfl) : wpAny (model prog w) A (subscriptTail value slice (.ref l) (.int k u)) Q E s := by
  have hl := N.isList hm
  refine tail_any hl.typeIs slot_list_getitem.lookup (wpAny_getItem_list hl (by omega) (by omega) ?_ h) hs
  rw [hk, Int.toNat_natCast]; exact hx
theorem item_row_last {value slice : Expr} {k : Int} {Q : Value → Shared → Prop} (N : News h₀ L s.heap news) (hm : (l, listOf its nn) ∈ news) (hx : (its[its.size - 1]? : Option Value) = some v) (hk : k = -1) (h1 : 1 ≤ its.size) (h : Q v s)
    (hs : subscripted slice false (.ref l) (.int k u) = operate [.ref l, .int k u] (getItem (.ref l) (.int k u)) := by with_unfolding_all rfl) : wpAny (model prog w) A (subscriptTail value slice (.ref l) (.int k u)) Q E s := by
  have hl := N.isList hm
  refine tail_any hl.typeIs slot_list_getitem.lookup (wpAny_getItem_list_neg hl (by omega) (by omega) (by omega) ?_ h) hs
  rw [hk, show (-1 + (its.size : Int)).toNat = its.size - 1 by omega]; exact hx
theorem truthy_row {Q : Bool → Shared → Prop} (N : News h₀ L s.heap news) (hm : (l, listOf its nn) ∈ news) (h1 : 1 ≤ its.size) (hz : its.size ≤ 10000) (h : ∀ k, Q true { s with toks := k }) : wpAny (model prog w) A (truthy (.ref l)) Q E s := by
  refine wpAny_truthy_list (N.isList hm) (by omega) ?_
  have e : (!its.isEmpty) = true := by
    rw [Bool.not_eq_true']
    rw [Array.isEmpty_eq_false_iff]
    intro q; rw [q] at h1; exact absurd h1 (by decide)
  rw [e]; exact h _
theorem truthy_row0 {Q : Bool → Shared → Prop} (N : News h₀ L s.heap news) (hm : (l, listOf its nn) ∈ news) (h1 : its.size = 0) (h : ∀ k, Q false { s with toks := k }) : wpAny (model prog w) A (truthy (.ref l)) Q E s := by
  refine wpAny_truthy_list (N.isList hm) (by omega) ?_
  have e : its = #[] := Array.eq_empty_of_size_eq_zero h1
  subst e
  exact h _
theorem eq_item {X : Str} {q c d : Nat} {i : Int} {y : Str} {t t2 : Tok} {Q : Value → Shared → Prop} (hc : X.cps.toList[q]? = some c) (hi : i = (q : Int)) (hy : y = ⟨#[d]⟩) (h : Q (.bool (decide (c = d))) s) :
    wpAny (model prog w) A (compareOp .Eq (.str (Txt.item X i) t) (.str y t2)) Q E s := by
  refine PyProof.Rows.eq_str ?_
  rw [hi, item_at hc, hy, one_eq]; exact h
end
theorem okc_not {c : Nat} (h : okc c = true) : c ≠ 42 ∧ c ≠ 63 ∧ c ≠ 91 := by
  refine ⟨?_, ?_, ?_⟩ <;> (rintro rfl; revert h; decide)
end

section
set_option maxRecDepth 100000
/-- the signs from the first star on -/
def rest : List (List Nat) → List Nat
  | [] => []
  | p :: ps => 42 :: (p ++ rest ps)
def sg1 (c : Nat) : Str := ⟨#[c]⟩
theorem map_1 {a b : Str} {V w : Option Value} {u m : Str → Option Value} :
    (fun y => if y = a then V else (if y = a then w else if y = b then u y else m y)) = (fun z => if z = a then V else if z = b then u z else m z) := by
  funext z
  by_cases h1 : z = a <;> simp only [h1, if_true, if_false]
theorem Strs.one_more {its : Array Value} {l : List Nat} {q d : Nat} (h : Strs its ((l.take q).map sg1)) (hd : l[q]? = some d) (t : Tok) : Strs (its.push (.str ⟨#[d]⟩ t)) ((l.take (q + 1)).map sg1) := by
  rw [List.take_add_one, hd, List.map_append]
  exact h.push _ t
theorem Row.str {S : Addr} {its : Array Value} {l : List Nat} {q d : Nat} (h : Row S its l) (hd : l[q]? = some d) (hn : d ≠ 42) : ∃ t, (its[q]? : Option Value) = some (.str ⟨#[d]⟩ t) := by
  obtain ⟨v, hv, ⟨e, _⟩ | ⟨_, t, rfl⟩⟩ := h.2 q d hd
  · exact absurd e hn
  · exact ⟨t, hv⟩
theorem Row.star {S : Addr} {its : Array Value} {l : List Nat} {q : Nat} (h : Row S its l) (hd : l[q]? = some 42) : (its[q]? : Option Value) = some (.ref S) := by
  obtain ⟨v, hv, ⟨_, rfl⟩ | ⟨e, _⟩⟩ := h.2 q 42 hd
  · exact hv
  · exact absurd rfl e
/-- the text of the parts behind the first star -/
def out : List (List Nat) → List Nat
  | [] => []
  | [p] => 46 :: 42 :: p
  | p :: q :: r => 40 :: 63 :: 62 :: 46 :: 42 :: 63 :: (p ++ 41 :: out (q :: r))
def catS (texts : List Str) : List Nat := (texts.map fun y => y.cps.toList).flatten
theorem catS_push (texts : List Str) (y : Str) : catS (texts ++ [y]) = catS texts ++ y.cps.toList := by
  unfold catS; rw [List.map_append, List.flatten_append]; simp
theorem catS_sg (l : List Nat) : catS (l.map sg1) = l := by
  induction l with
  | nil => rfl
  | cons c l ih => unfold catS at *; rw [List.map_cons, List.map_cons, List.flatten_cons, ih]; rfl
theorem join_cat (texts : List Str) : (Txt.join (Str.ofString "") texts).cps.toList = catS texts := by
  unfold Txt.join
  rw [StrLaws.glued_eq_join]
  have e : Str.ofString "" = ⟨#[]⟩ := by decide +kernel
  rw [e]
  induction texts with
  | nil => rfl
  | cons y r ih =>
    cases r with
    | nil => unfold catS; simp [Str.join]
    | cons z r =>
      show (y ++ ⟨#[]⟩ ++ Str.join ⟨#[]⟩ (z :: r)).cps.toList = _
      rw [app_list, app_list, ih]
      unfold catS
      simp
end

section
set_option maxRecDepth 100000
section
variable {prog : Program} {w : World} {A : Around} {E : Value → Shared → Prop} {s : Shared} {env : Env} {h₀ : Heap} {Q : Flow → Shared → Prop}
/-- a while: one name of worth, an object of the ledger -/
theorem while_o {test : Expr} {body : List Stmt} {pos : Pos} {m : Str → Option Value} {L D : Addr} {v₀ : Value} {o₀ : Obj} {pre post : List (Addr × Obj)} (x₁ : Str) (P : Nat → Value → Obj → Prop) {n₀ : Nat}
    (F : Fr h₀ L s.heap m) (N : News h₀ L s.heap (pre ++ (D, o₀) :: post)) (hx : m x₁ = some v₀) (hP : P n₀ v₀ o₀)
    (turn : ∀ n v o h tk, P n v o → Fr h₀ L h (fun z => if z = x₁ then some v else m z) → News h₀ L h (pre ++ (D, o) :: post) →
      wpAny (model prog w) A (isTrue test env (eval test env)) (fun b s₂ =>
        if b = true then wpAny (model prog w) A (execs body env) (WhileStep h₀ L s (fun n m₁ news₁ => ∃ v o, m₁ = (fun z => if z = x₁ then some v else m z) ∧ news₁ = pre ++ (D, o) :: post ∧ P n v o) n) E s₂ else Q .next s₂) E { s with heap := h, toks := tk })
    (hE : PassesOwn (model prog w) A env E) :
    wpAny (model prog w) A (exec (.While test body [] pos) env) Q E s := by
  refine While_inv (fun n m₁ news₁ => ∃ v o, m₁ = (fun z => if z = x₁ then some v else m z) ∧ news₁ = pre ++ (D, o) :: post ∧ P n v o) (n₀ := n₀) F N ⟨v₀, o₀, ?_, rfl, hP⟩ ?_ hE
  · funext z
    by_cases h1 : z = x₁
    · rw [if_pos h1, h1, hx]
    · rw [if_neg h1]
  · rintro n m₁ news₁ h₁ tk₁ F₁ N₁ ⟨v, o, rfl, rfl, p⟩
    exact turn n v o h₁ tk₁ p F₁ N₁
end
theorem map_o {a : Str} {V w : Option Value} {m : Str → Option Value} :
    (fun y => if y = a then V else (if y = a then w else m y)) = (fun z => if z = a then V else m z) := by
  funext z
  by_cases h1 : z = a <;> simp only [h1, if_true, if_false]
theorem map_fifi {f i : Str} {F1 V1 F2 V2 V3 : Option Value} {u m : Str → Option Value} (hfi : f ≠ i) :
    (fun y => if y = f then F1 else if y = i then V1 else if y = f then F2 else if y = i then V2 else if y = i then V3 else if y = f then u y else m y) = (fun z => if z = i then V1 else if z = f then (fun _ => F1) z else m z) := by
  funext z
  by_cases h1 : z = i
  · have h2 : ¬ z = f := fun e => hfi (e.symm.trans h1)
    simp only [h1, if_true]; rw [if_neg (fun e => hfi e.symm)]
  · by_cases h2 : z = f
    · simp only [h2, if_true]
      rw [if_neg hfi]
    · simp only [h1, h2, if_false]
end

section
set_option maxRecDepth 100000
open PySem.StrLaws PySem.Builtin.Str
theorem lenL (x : Str) : x.cps.toList.length = x.length := by simp [Str.length]
theorem at_iff {x y : Str} {i : Nat} : At x y x.length i ↔ i + y.length ≤ x.length ∧ (x.cps.toList.drop i).take y.length = y.cps.toList := by
  unfold At
  rw [subAt_eq, beq_iff_eq]
theorem at_head {x y : Str} {h i : Nat} (hy : y.cps.toList.head? = some h) (hA : At x y x.length i) : x.cps.toList[i]? = some h := by
  have h2 := (at_iff.mp hA).2
  have h3 : ((x.cps.toList.drop i).take y.length)[0]? = some h := by rw [h2, ← List.head?_eq_getElem?]; exact hy
  have hw : 0 < y.length := by
    rw [← lenL]
    cases e : y.cps.toList with
    | nil => rw [e] at hy; cases hy
    | cons a r => exact Nat.succ_pos _
  rw [List.getElem?_take_of_lt hw, List.getElem?_drop, Nat.add_zero] at h3
  exact h3
theorem join_two (y p q : Str) (r : List Str) : (Str.join y (p :: q :: r)).cps.toList = p.cps.toList ++ (y.cps.toList ++ (Str.join y (q :: r)).cps.toList) := by
  show (p ++ y ++ Str.join y (q :: r)).cps.toList = _
  rw [app_list, app_list, List.append_assoc]
theorem sub_drop {x : Str} {a c : Nat} {p l : List Nat} (h : x.cps.toList.drop a = p ++ l) (hc : c = a + p.length) : (strSub x a c).cps.toList = p := by
  rw [strSub_toList, h, List.take_left' (by omega)]
theorem parts_of (x y : Str) {h : Nat} (hy : y.cps.toList.head? = some h) : ∀ (ps : List Str) (p : Str) (a : Nat) (cuts : List Nat) (f : Nat), (∀ q ∈ p :: ps, h ∉ q.cps.toList) → x.cps.toList.drop a = (Str.join y (p :: ps)).cps.toList →
    a ≤ x.length → ChainG x y x.length a cuts f → (∀ k, f ≤ k → ¬ At x y x.length k) → partsFrom x y.length a cuts = p :: ps := by
  intro ps
  induction ps with
  | nil =>
    intro p a cuts f hfree hx ha hG hf
    have hx1 : x.cps.toList.drop a = p.cps.toList ++ [] := by rw [hx, List.append_nil]; rfl
    have hl : x.length = a + p.cps.toList.length := by
      have := congrArg List.length hx1
      rw [List.length_drop, lenL, List.append_nil] at this; omega
    cases cuts with
    | nil =>
      show [strSub x a x.length] = [p]
      congr 1
      exact str_ext (sub_drop hx1 hl)
    | cons c r =>
      exfalso
      obtain ⟨h1, h2, _⟩ := hG
      have h3 := at_head hy h2
      obtain ⟨j, rfl⟩ := Nat.exists_eq_add_of_le h1
      rw [← List.getElem?_drop, hx1, List.append_nil] at h3
      exact hfree p (.head _) (List.mem_of_getElem? h3)
  | cons q r ih =>
    intro p a cuts f hfree hx ha hG hf
    rw [join_two] at hx
    have hl : x.length = a + (p.cps.toList.length + (y.length + (Str.join y (q :: r)).length)) := by
      have := congrArg List.length hx
      rw [List.length_drop, List.length_append, List.length_append, lenL, lenL y, lenL (Str.join y (q :: r))] at this; omega
    have hd : x.cps.toList.drop (a + p.cps.toList.length) = y.cps.toList ++ (Str.join y (q :: r)).cps.toList := by
      rw [← List.drop_drop, hx, List.drop_left]
    have hA : At x y x.length (a + p.cps.toList.length) := at_iff.mpr ⟨by omega, by rw [hd, List.take_left' (lenL y)]⟩
    cases cuts with
    | nil =>
      exfalso
      have e : f = a := hG
      exact hf _ (by omega) hA
    | cons c s =>
      obtain ⟨h1, h2, h3, h4⟩ := hG
      have hc1 : ¬ a + p.cps.toList.length < c := fun hlt => h3 _ (by omega) hlt hA
      have hc2 : ¬ c < a + p.cps.toList.length := by
        intro hlt
        have h5 := at_head hy h2
        obtain ⟨j, rfl⟩ := Nat.exists_eq_add_of_le h1
        rw [← List.getElem?_drop, hx, List.getElem?_append_left (by omega)] at h5
        exact hfree p (.head _) (List.mem_of_getElem? h5)
      have hc : c = a + p.cps.toList.length := by omega
      show strSub x a c :: partsFrom x y.length (c + y.length) s = p :: q :: r
      rw [str_ext (sub_drop hx hc)]
      congr 1
      refine ih q (c + y.length) s f (fun z hz => hfree z (.tail _ hz)) ?_ (by omega) h4 hf
      rw [← List.drop_drop, hc, hd, List.drop_left' (lenL y)]
theorem kind_pos (x : Str) : 1 ≤ Builtin.Str.strKind x := by
  unfold Builtin.Str.strKind; split
  · decide
  · split <;> decide
theorem split_join {y : Str} {h : Nat} (hy : y.cps.toList.head? = some h) (hk : Builtin.Str.strKind y = 1) (p : Str) (ps : List Str) (hfree : ∀ q ∈ p :: ps, h ∉ q.cps.toList) : Txt.split (Str.join y (p :: ps)) y = p :: ps := by
  have hw : 1 ≤ y.length := by
    rw [← lenL]
    cases e : y.cps.toList with
    | nil => rw [e] at hy; cases hy
    | cons a r => exact Nat.succ_pos _
  obtain ⟨f, hG, hf⟩ := occ_tight (Str.join y (p :: ps)) y hw
  have key := parts_of (Str.join y (p :: ps)) y hy ps p 0 _ f hfree (by rw [List.drop_zero]) (Nat.zero_le _) hG hf
  unfold Txt.split
  split
  · rename_i hc
    rw [Bool.or_eq_true, decide_eq_true_eq, decide_eq_true_eq] at hc
    have hk1 := kind_pos (Str.join y (p :: ps))
    cases ps with
    | nil => rfl
    | cons q r =>
      have := congrArg List.length (join_two y p q r)
      rw [lenL, List.length_append, List.length_append, lenL y] at this
      omega
  · split
    · rename_i he
      rw [List.isEmpty_iff.mp he] at key
      have key2 : [strSub (Str.join y (p :: ps)) 0 (Str.join y (p :: ps)).length] = p :: ps := key
      rw [sub_whole] at key2
      exact key2
    · rw [partsBetween_eq]; exact key
end

section
set_option maxRecDepth 100000
open PySem.StrLaws PySem.Builtin.Str
/-- b lines and a rest, glued by z -/
def gl (c b room r : Nat) (z : Str) : Str := Txt.join z (List.replicate b (lbS c room) ++ [repS r (escS c)])
theorem gl_eq (c n room more : Nat) (z : Str) : bodyT c n room more z = gl c (brk n room more) room (n - room * brk n room more) z := rfl
theorem rest_pos {n room more : Nat} (hr : 1 ≤ room) (hn : 1 ≤ n) (hm : 1 ≤ more) : 1 ≤ n - room * brk n room more := by
  have h := brk_in (more := more) (n := n) hr (rfl : room * brk n room more = room * brk n room more) (Nat.le_refl _)
  by_cases he : (more + 1) / 2 ≤ n
  · omega
  · have h0 : n - (more + 1) / 2 = 0 := by omega
    omega
theorem gl_zero (c room r : Nat) (z : Str) : gl c 0 room r z = repS r (escS c) := by
  unfold gl Txt.join
  rw [glued_eq_join]; rfl
theorem gl_cons (c b room r : Nat) (z : Str) : gl c (b + 1) room r z = lbS c room ++ z ++ gl c b room r z := by
  unfold gl Txt.join
  rw [glued_eq_join, glued_eq_join, List.replicate_succ, List.cons_append]
  cases b with
  | zero => rfl
  | succ b => rw [List.replicate_succ]; rfl
theorem lb_ok {c room : Nat} (h2 : c < 256) : ∀ d ∈ (lbS c room).cps.toList, okc d = true := by
  intro d hd
  unfold lbS at hd
  rw [app_list] at hd
  rcases List.mem_append.mp hd with h | h
  · exact reps_ok h2 d h
  · rw [List.mem_singleton.mp h]; rfl
theorem pp_ne (lb rs : Str) (b : Nat) : ∃ p r, pp lb rs b = p :: r := by
  cases b with
  | zero => exact ⟨_, _, rfl⟩
  | succ b => exact ⟨_, _, rfl⟩
theorem gl_pp (c b room r : Nat) : gl c b room r (Str.ofString "/../") = Str.join (Str.ofString "/") (pp (lbS c room) (repS r (escS c)) b) := by
  induction b with
  | zero => rw [gl_zero]; rfl
  | succ b ih =>
    rw [gl_cons, ih]
    obtain ⟨p, q, e⟩ := pp_ne (lbS c room) (repS r (escS c)) b
    apply str_ext
    show _ = (Str.join (Str.ofString "/") (lbS c room :: Str.ofString ".." :: pp (lbS c room) (repS r (escS c)) b)).cps.toList
    rw [e, join_two, join_two, app_list, app_list, List.append_assoc]
    congr 1
theorem pp_free {lb rs : Str} {h : Nat} (h1 : h ∉ lb.cps.toList) (h2 : h ∉ rs.cps.toList) (h3 : h ∉ (Str.ofString "..").cps.toList) : ∀ b, ∀ q ∈ pp lb rs b, h ∉ q.cps.toList := by
  intro b
  induction b with
  | zero => intro q hq; rw [List.mem_singleton.mp hq]; exact h2
  | succ b ih =>
    intro q hq
    rcases List.mem_cons.mp hq with rfl | hq
    · exact h1
    · rcases List.mem_cons.mp hq with rfl | hq
      · exact h3
      · exact ih q hq
theorem not_ok_mem {x : Str} {h : Nat} (hx : ∀ d ∈ x.cps.toList, okc d = true) (hh : okc h = false) : h ∉ x.cps.toList := fun hm => by
  rw [hx h hm] at hh; cases hh
theorem gl_split {c b room r : Nat} (h2 : c < 256) : Txt.split (gl c b room r (Str.ofString "/../")) (Str.ofString "/") = pp (lbS c room) (repS r (escS c)) b := by
  rw [gl_pp]
  obtain ⟨p, q, e⟩ := pp_ne (lbS c room) (repS r (escS c)) b
  have hf := pp_free (not_ok_mem (lb_ok (room := room) h2) (by decide : okc 47 = false)) (not_ok_mem (reps_ok (n := r) h2) (by decide : okc 47 = false)) (by decide +kernel) b
  rw [e] at hf ⊢
  exact split_join (h := 47) (by decide +kernel) (by decide +kernel) p q hf
theorem gl_length (c b room r : Nat) (z : Str) : (gl c b room r z).length = b * (3 * room + 1 + z.length) + 3 * r := by
  induction b with
  | zero => rw [gl_zero, repS_length, escS_length]; omega
  | succ b ih =>
    rw [gl_cons, Str.length_append, Str.length_append, ih, lbS_length, Nat.add_mul, Nat.one_mul]; omega
theorem gl_head {c b room r : Nat} {z : Str} (hr : 1 ≤ room) (hr2 : 1 ≤ r) : (gl c b room r z).cps.toList[0]? = some 61 := by
  have hrep : ∀ k, 1 ≤ k → (repS k (escS c)).cps.toList[0]? = some 61 := by
    intro k hk
    obtain ⟨j, rfl⟩ : ∃ j, k = j + 1 := ⟨k - 1, by omega⟩
    rw [reps_list, rl_succ]; rfl
  have happ : ∀ (x y : Str), x.cps.toList[0]? = some 61 → (x ++ y).cps.toList[0]? = some 61 := by
    intro x y h
    rw [app_list, List.getElem?_append_left ((List.getElem?_eq_some_iff.mp h).1)]; exact h
  cases b with
  | zero => rw [gl_zero]; exact hrep r hr2
  | succ b => rw [gl_cons]; exact happ _ _ (happ _ _ (happ _ _ (hrep room hr)))
theorem slice_first {X : Str} {d : Nat} (h : X.cps.toList[0]? = some d) : Txt.slice X none (some 1) = ⟨#[d]⟩ := by
  apply str_ext
  have hl := (List.getElem?_eq_some_iff.mp h).1
  rw [slice_upto ⟨by decide, by omega⟩]
  cases e : X.cps.toList with
  | nil => rw [e] at h; cases h
  | cons a r => rw [e] at h; simp at h; rw [h]; rfl
theorem gl_small {c b room r : Nat} {z : Str} (hb : b ≤ 12) (hr : room ≤ 12) (hr2 : r ≤ 13) (hz : z.length ≤ 4) : (gl c b room r z).length ≤ 531 := by
  rw [gl_length]
  have := Nat.mul_le_mul hb (show 3 * room + 1 + z.length ≤ 41 by omega)
  omega
/-- the parts as lists -/
def gp (c b room r : Nat) : List (List Nat) := List.replicate b (lbS c room).cps.toList ++ [(repS r (escS c)).cps.toList]
theorem gp_cons (c b room r : Nat) : gp c (b + 1) room r = (lbS c room).cps.toList :: gp c b room r := rfl
theorem gp_head (c b room r : Nat) : ∃ p ps, gp c b room r = p :: ps := by
  cases b with
  | zero => exact ⟨_, _, rfl⟩
  | succ b => exact ⟨_, _, rfl⟩
/-- the first part, the others -/
def g0 (c b room r : Nat) : List Nat := (gp c b room r).headD []
def gs (c b room r : Nat) : List (List Nat) := (gp c b room r).tail
theorem gp_eq (c b room r : Nat) : gp c b room r = g0 c b room r :: gs c b room r := by
  unfold g0 gs
  obtain ⟨p, ps, e⟩ := gp_head c b room r
  rw [e]; rfl
theorem gl_star (c b room r : Nat) : (gl c b room r (Str.ofString "*")).cps.toList = g0 c b room r ++ rest (gs c b room r) := by
  have hz : (Str.ofString "*").cps.toList = [42] := by decide +kernel
  induction b with
  | zero => rw [gl_zero]; exact (List.append_nil _).symm
  | succ b ih =>
    rw [gl_cons, app_list, app_list, ih, hz]
    have e : g0 c (b + 1) room r = (lbS c room).cps.toList := rfl
    have e2 : gs c (b + 1) room r = gp c b room r := rfl
    rw [e, e2, gp_eq, List.append_assoc]
    rfl
theorem gp_all {c b room r : Nat} (h2 : c < 256) (hr : 1 ≤ r) (hr2 : r ≤ 13) (hr3 : room ≤ 12) : ∀ p ∈ gp c b room r, p ≠ [] ∧ p.length ≤ 80 ∧ ∀ d ∈ p, okc d = true := by
  intro p hp
  unfold gp at hp
  rcases List.mem_append.mp hp with h | h
  · rw [List.eq_of_mem_replicate h]
    refine ⟨?_, ?_, lb_ok h2⟩
    · intro e
      have := congrArg List.length e
      rw [lenL, lbS_length] at this; simp at this
    · rw [lenL, lbS_length]; omega
  · rw [List.mem_singleton.mp h]
    refine ⟨?_, ?_, reps_ok h2⟩
    · intro e
      have := congrArg List.length e
      rw [lenL, repS_length, escS_length] at this; simp at this; omega
    · rw [lenL, repS_length, escS_length]; omega
theorem ok42 {p : List Nat} (h : ∀ d ∈ p, okc d = true) : ∀ d ∈ p, d ≠ 42 := fun d hd => (okc_not (h d hd)).1
theorem star_ok : ∀ (ps : List (List Nat)) (p0 : List Nat), (∀ d ∈ p0, okc d = true) → (∀ p ∈ ps, ∀ d ∈ p, okc d = true) → ∀ (q d : Nat), (p0 ++ rest ps)[q]? = some d → d = 42 ∨ okc d = true := by
  intro ps
  induction ps with
  | nil =>
    intro p0 h0 _ q d hq
    rw [show rest [] = [] from rfl, List.append_nil] at hq
    exact .inr (h0 d (List.mem_of_getElem? hq))
  | cons p ps ih =>
    intro p0 h0 hp q d hq
    by_cases h1 : q < p0.length
    · rw [List.getElem?_append_left h1] at hq
      exact .inr (h0 d (List.mem_of_getElem? hq))
    · rw [List.getElem?_append_right (by omega)] at hq
      rw [show rest (p :: ps) = 42 :: (p ++ rest ps) from rfl] at hq
      cases e : q - p0.length with
      | zero => rw [e] at hq; simp at hq; exact .inl hq.symm
      | succ j =>
        rw [e, List.getElem?_cons_succ] at hq
        exact ih p (hp p (.head _)) (fun z hz => hp z (.tail _ hz)) j d hq
theorem star_sep : ∀ (ps : List (List Nat)) (p0 : List Nat), p0 ≠ [] → (∀ d ∈ p0, d ≠ 42) → (∀ p ∈ ps, p ≠ [] ∧ ∀ d ∈ p, d ≠ 42) → ∀ q : Nat, (p0 ++ rest ps)[q]? = some 42 → 1 ≤ q ∧ ∀ d : Nat, (p0 ++ rest ps)[q - 1]? = some d → d ≠ 42 := by
  intro ps
  induction ps with
  | nil =>
    intro p0 _ h0 _ q hq
    rw [show rest [] = [] from rfl, List.append_nil] at hq
    exact absurd rfl (h0 42 (List.mem_of_getElem? hq))
  | cons p ps ih =>
    intro p0 hn h0 hp q hq
    have hn1 : 1 ≤ p0.length := by
      cases p0 with
      | nil => exact absurd rfl hn
      | cons a r => exact Nat.succ_pos _
    by_cases h1 : q < p0.length
    · rw [List.getElem?_append_left h1] at hq
      exact absurd rfl (h0 42 (List.mem_of_getElem? hq))
    · refine ⟨by omega, ?_⟩
      intro d hd
      rw [List.getElem?_append_right (by omega)] at hq
      rw [show rest (p :: ps) = 42 :: (p ++ rest ps) from rfl] at hq hd
      cases e : q - p0.length with
      | zero =>
        rw [List.getElem?_append_left (by omega)] at hd
        exact h0 d (List.mem_of_getElem? hd)
      | succ j =>
        rw [e, List.getElem?_cons_succ] at hq
        obtain ⟨hj, hj2⟩ := ih p (hp p (.head _)).1 (hp p (.head _)).2 (fun z hz => hp z (.tail _ hz)) j hq
        rw [List.getElem?_append_right (by omega)] at hd
        have e2 : q - 1 - p0.length = (j - 1) + 1 := by omega
        rw [e2, List.getElem?_cons_succ] at hd
        exact hj2 d hd
theorem out_length : ∀ (ps : List (List Nat)), (∀ p ∈ ps, p.length ≤ 80) → (out ps).length ≤ ps.length * 87
  | [], _ => Nat.zero_le _
  | [p], h => by
    have := h p (.head _)
    simp only [out, List.length_cons, List.length_nil]; omega
  | p :: q :: r, h => by
    have h1 := h p (.head _)
    have h2 := out_length (q :: r) (fun z hz => h z (.tail _ hz))
    simp only [out, List.length_cons, List.length_append] at h2 ⊢
    rw [Nat.add_mul]; omega
end

section
set_option maxRecDepth 100000
open PySem.StrLaws PySem.Builtin.Str
/-- what stands within the wrapping -/
def ins (c b room r : Nat) : Str := ⟨(g0 c b room r ++ out (gs c b room r)).toArray⟩
def wrapT (x : Str) : Str := Str.ofString "(?s:" ++ x ++ Str.ofString ")\\Z"
theorem wrap_length (x : Str) : (wrapT x).length = x.length + 7 := by
  unfold wrapT
  rw [Str.length_append, Str.length_append, show (Str.ofString "(?s:").length = 4 by decide +kernel, show (Str.ofString ")\\Z").length = 3 by decide +kernel]; omega
theorem wrap_slice (x : Str) {j : Int} (hj : j = (wrapT x).length - 3) : Txt.slice (wrapT x) (some 4) (some j) = x := by
  have hl := wrap_length x
  apply str_ext
  rw [slice_list ⟨by decide, by omega, by rw [lenL]; omega⟩]
  have e : (j - 4).toNat = x.length := by omega
  rw [e]
  unfold wrapT
  rw [app_list, app_list, List.append_assoc]
  have e4 : (Str.ofString "(?s:").cps.toList.length = (4 : Int).toNat := by decide +kernel
  rw [List.drop_left' e4, List.take_left' (lenL x)]
/-- one group's text -/
def grp (c room : Nat) : Str := lbS c room ++ ⟨#[41]⟩
def headT (c j room : Nat) : Str := Str.join (Str.ofString "(?>.*?") (lbS c room :: List.replicate j (grp c room))
theorem ins_zero (c room r : Nat) : ins c 0 room r = repS r (escS c) := by
  apply str_ext
  show (repS r (escS c)).cps.toList ++ out [] = _
  exact List.append_nil _
theorem join_rep (y g : Str) : ∀ (j : Nat) (p : Str), (Str.join y (p :: List.replicate j g)).cps.toList = p.cps.toList ++ (List.replicate j (y.cps.toList ++ g.cps.toList)).flatten := by
  intro j
  induction j with
  | zero => intro p; exact (List.append_nil _).symm
  | succ j ih =>
    intro p
    rw [List.replicate_succ, join_two, ih g, List.replicate_succ, List.flatten_cons, List.append_assoc]
theorem out_rep (l q : List Nat) : ∀ j : Nat, out (List.replicate j l ++ [q]) = (List.replicate j ([40, 63, 62, 46, 42, 63] ++ (l ++ [41]))).flatten ++ 46 :: 42 :: q := by
  intro j
  induction j with
  | zero => rfl
  | succ j ih =>
    rw [List.replicate_succ, List.cons_append]
    obtain ⟨a, s, e⟩ : ∃ a s, List.replicate j l ++ [q] = a :: s := by
      cases j with
      | zero => exact ⟨_, _, rfl⟩
      | succ j => exact ⟨_, _, rfl⟩
    rw [e] at ih ⊢
    rw [out, ih, List.replicate_succ, List.flatten_cons]
    simp
theorem g_list : (Str.ofString "(?>.*?").cps.toList = [40, 63, 62, 46, 42, 63] := by decide +kernel
theorem dots_list : (Str.ofString ".*").cps.toList = [46, 42] := by decide +kernel
theorem dots_length : (Str.ofString ".*").length = 2 := by decide +kernel
theorem ins_succ (c j room r : Nat) : ins c (j + 1) room r = headT c j room ++ Str.ofString ".*" ++ repS r (escS c) := by
  apply str_ext
  rw [app_list, app_list, headT, join_rep, g_list, dots_list]
  show (lbS c room).cps.toList ++ out (List.replicate j (lbS c room).cps.toList ++ [(repS r (escS c)).cps.toList]) = _
  rw [out_rep, grp, app_list, List.append_assoc, List.append_assoc]
  rfl
theorem ins_length (c j room r : Nat) : (ins c (j + 1) room r).length = (headT c j room).length + 2 + 3 * r := by
  rw [ins_succ, Str.length_append, Str.length_append, repS_length, escS_length, dots_length]; omega
theorem head_length (c j room : Nat) : (headT c j room).length = 3 * room + 1 + j * (3 * room + 8) := by
  rw [← lenL, headT, join_rep, List.length_append, lenL, lbS_length]
  congr 1
  induction j with
  | zero => rw [Nat.zero_mul]; rfl
  | succ j ih =>
    rw [List.replicate_succ, List.flatten_cons, List.length_append, ih, List.length_append, g_list, lenL, grp, Str.length_append, lbS_length, Nat.add_mul, Nat.one_mul]
    show 6 + (3 * room + 1 + 1) + _ = _
    omega
theorem rfind_zero {c r : Nat} (h2 : c < 256) : Txt.rfind (repS r (escS c)) (Str.ofString ".*") = -1 := by
  rcases rfind_whole (repS r (escS c)) (Str.ofString ".*") with ⟨h, _⟩ | ⟨i, _, hA, _⟩
  · exact h
  · have h3 := at_head (h := 46) (by decide +kernel) hA
    exact absurd (List.mem_of_getElem? h3) (not_ok_mem (reps_ok h2) (by decide))
theorem rfind_succ {c j room r : Nat} (h2 : c < 256) : Txt.rfind (ins c (j + 1) room r) (Str.ofString ".*") = (headT c j room).length := by
  have hl := ins_length c j room r
  have hlist : (ins c (j + 1) room r).cps.toList = (headT c j room).cps.toList ++ (46 :: 42 :: (repS r (escS c)).cps.toList) := by
    rw [ins_succ, app_list, app_list, dots_list, List.append_assoc]; rfl
  have hd : (ins c (j + 1) room r).cps.toList.drop (headT c j room).length = 46 :: 42 :: (repS r (escS c)).cps.toList := by
    rw [hlist, List.drop_left' (lenL _)]
  have hA : At (ins c (j + 1) room r) (Str.ofString ".*") (ins c (j + 1) room r).length (headT c j room).length :=
    at_iff.mpr ⟨by rw [dots_length]; omega, by rw [hd, dots_length, dots_list]; rfl⟩
  have hno : ∀ k, (headT c j room).length < k → ¬ At (ins c (j + 1) room r) (Str.ofString ".*") (ins c (j + 1) room r).length k := by
    intro k hk hB
    have h3 := at_head (h := 46) (by decide +kernel) hB
    obtain ⟨q, rfl⟩ := Nat.exists_eq_add_of_lt hk
    rw [Nat.add_assoc, ← List.getElem?_drop, hd, List.getElem?_cons_succ] at h3
    cases q with
    | zero => cases h3
    | succ q =>
      rw [List.getElem?_cons_succ] at h3
      exact not_ok_mem (reps_ok h2) (by decide) (List.mem_of_getElem? h3)
  rcases rfind_whole (ins c (j + 1) room r) (Str.ofString ".*") with ⟨_, h⟩ | ⟨i, hi, hB, hn⟩
  · exact absurd hA (h _)
  · have h1 : ¬ i < (headT c j room).length := fun h => hn _ h hA
    have h4 : ¬ (headT c j room).length < i := fun h => hno _ h hB
    rw [hi]; omega
theorem slice_head {c j room r : Nat} {i : Int} (hi : i = (headT c j room).length) : Txt.slice (ins c (j + 1) room r) none (some i) = headT c j room := by
  have hl := ins_length c j room r
  apply str_ext
  rw [slice_upto ⟨by omega, by rw [lenL]; omega⟩, ins_succ, app_list, app_list, List.append_assoc, hi, Int.toNat_natCast, List.take_left' (lenL _)]
theorem slice_tail {c j room r : Nat} {i : Int} (hi : i = (headT c j room).length + 2) : Txt.slice (ins c (j + 1) room r) (some i) none = repS r (escS c) := by
  have hl := ins_length c j room r
  apply str_ext
  rw [slice_from (by omega) (by omega), ins_succ, app_list]
  refine List.drop_left' ?_
  rw [lenL, Str.length_append, dots_length]; omega
theorem split_head {c j room : Nat} (h2 : c < 256) : Txt.split (headT c j room) (Str.ofString "(?>.*?") = lbS c room :: List.replicate j (grp c room) := by
  refine split_join (h := 40) (by decide +kernel) (by decide +kernel) _ _ ?_
  have h40 : 40 ∉ (lbS c room).cps.toList := not_ok_mem (lb_ok h2) (by decide)
  intro q hq
  rcases List.mem_cons.mp hq with rfl | hq
  · exact h40
  · rw [List.eq_of_mem_replicate hq]
    intro hm
    rw [grp, app_list] at hm
    rcases List.mem_append.mp hm with h | h
    · exact h40 h
    · exact absurd (List.mem_singleton.mp h) (by decide)
theorem grp_length (c room : Nat) : (grp c room).length = 3 * room + 2 := by
  rw [grp, Str.length_append, lbS_length]; rfl
theorem slice_grp {c room : Nat} {j : Int} (hj : j = -1) : Txt.slice (grp c room) none (some j) = lbS c room := by
  subst hj
  have hl := grp_length c room
  have e := eq_of_beq (slice_closes_to_neg (x := grp c room) (j := -1) (k := 3 * room + 1) (by decide) (by rw [hl]; omega) (by rw [hl]; omega))
  rw [e]
  apply str_ext
  show (grp c room).cps.toList.take (3 * room + 1) = _
  rw [grp, app_list, List.take_left' (by rw [lenL, lbS_length])]
theorem slice_paren {c room : Nat} {j : Int} (hj : j = -1) : Txt.slice (grp c room) (some j) none = ⟨#[41]⟩ := by
  subst hj
  have hl := grp_length c room
  have e := eq_of_beq (slice_closes_from_neg (x := grp c room) (i := -1) (a := 3 * room + 1) (b := 3 * room + 2) (by decide) (by rw [hl]; omega) (by rw [hl]; omega) (by rw [hl]; omega))
  rw [e]
  apply str_ext
  show ((grp c room).cps.toList.drop (3 * (room : Int) + 1).toNat).take (3 * (room : Int) + 2 - (3 * room + 1)).toNat = [41]
  rw [show (3 * (room : Int) + 1).toNat = 3 * room + 1 by omega, show (3 * (room : Int) + 2 - (3 * room + 1)).toNat = 1 by omega, grp, app_list, List.drop_left' (by rw [lenL, lbS_length])]
  rfl
theorem row_length (k c : Nat) : (repS k (escS c)).length = 3 * k := by rw [repS_length, escS_length]; omega
theorem at_row {k c room i : Nat} (h2 : c < 256) (hroom : 1 ≤ room) : At (repS k (escS c)) (lbS c room) (repS k (escS c)).length i ↔ i % 3 = 0 ∧ i + 3 * room + 1 ≤ 3 * k := by
  constructor
  · intro hA
    have hl := (at_iff.mp hA).1
    rw [lbS_length, row_length] at hl
    refine ⟨?_, by omega⟩
    have hh : (lbS c room).cps.toList.head? = some 61 := by
      obtain ⟨j, rfl⟩ : ∃ j, room = j + 1 := ⟨room - 1, by omega⟩
      rw [lbS, app_list, reps_list, rl_succ]; rfl
    have h3 := at_head hh hA
    rw [reps_list, rl_get (y_len3 rfl) (by omega)] at h3
    have hr : i % 3 = 0 ∨ i % 3 = 1 ∨ i % 3 = 2 := by omega
    rcases hr with e | e | e
    · exact e
    · rw [e] at h3
      injection h3 with h3
      exact absurd h3 (okc_61 (by omega))
    · rw [e] at h3
      injection h3 with h3
      exact absurd h3 (okc_61 (by omega))
  · rintro ⟨h3, h4⟩
    refine at_iff.mpr ⟨by rw [lbS_length, row_length]; omega, ?_⟩
    obtain ⟨p, rfl⟩ : ∃ p, i = 3 * p := ⟨i / 3, by omega⟩
    have e := slice_rep1 (n := k) (p := p) (q := room) (c := c) (i := ((3 * p : Nat) : Int)) (j := 3 * (p + room) + 1) (by omega) (by omega) rfl
    have e2 : (Txt.slice (repS k (escS c)) (some ((3 * p : Nat) : Int)) (some (3 * (p + room) + 1))).cps.toList = (repS room (escS c) ++ ⟨#[61]⟩ : Str).cps.toList := congrArg (fun x : Str => x.cps.toList) e
    rw [slice_list ⟨by omega, by omega, by rw [lenL, row_length]; omega⟩, Int.toNat_natCast, show (3 * ((p : Int) + room) + 1 - ((3 * p : Nat) : Int)).toNat = 3 * room + 1 by omega] at e2
    rw [lbS_length]; exact e2
theorem find_row {k c room m : Nat} {i : Int} (h2 : c < 256) (hroom : 1 ≤ room) (hi : i = 3 * m + 1) : Txt.find3 (repS k (escS c)) (lbS c room) i = if m + room + 2 ≤ k then 3 * ((m : Int) + 1) else -1 := by
  have ef : PySem.fromIndex (repS k (escS c)).length i = 3 * m + 1 := by
    unfold PySem.fromIndex
    rw [if_neg (by omega)]; omega
  unfold Txt.find3
  rw [ef]
  rcases occ_head_from (repS k (escS c)) (lbS c room) (3 * m + 1) 1 (Nat.le_refl 1) with ⟨h0, hn⟩ | ⟨v, r, h0, hlo, hA, hn⟩
  · rw [h0, if_neg]
    intro hle
    exact hn (3 * m + 3) (by omega) ((at_row h2 hroom).mpr ⟨by omega, by omega⟩)
  · have hA2 := (at_row h2 hroom).mp hA
    have hv : ¬ 3 * m + 3 < v := fun hlt => hn (3 * m + 3) (by omega) hlt ((at_row h2 hroom).mpr ⟨by omega, by omega⟩)
    rw [h0, if_pos (by omega)]
    show (v : Int) = _
    omega
theorem row_head {k c room : Nat} {i : Int} (hi : i = 3 * room + 1) : (Txt.slice (repS k (escS c)) none (some i) != lbS c room) = !decide (room + 1 ≤ k) := by
  by_cases h : room + 1 ≤ k
  · rw [decide_eq_true h]
    have e : Txt.slice (repS k (escS c)) none (some i) = lbS c room := by
      have e := slice_rep1 (n := k) (p := 0) (q := room) (c := c) (i := 0) (j := i) (by omega) rfl (by omega)
      apply str_ext
      have e2 : (Txt.slice (repS k (escS c)) (some 0) (some i)).cps.toList = (repS room (escS c) ++ ⟨#[61]⟩ : Str).cps.toList := congrArg (fun x : Str => x.cps.toList) e
      rw [slice_list ⟨by omega, by omega, by rw [lenL, row_length]; omega⟩] at e2
      rw [slice_upto ⟨by omega, by rw [lenL, row_length]; omega⟩]
      rw [show (i - 0).toNat = i.toNat by omega] at e2
      exact e2
    rw [e]; simp
  · rw [decide_eq_false h]
    have hc := slice_ns_cases (repS k (escS c)) i (by omega)
    rw [row_length] at hc
    unfold bne
    rw [ne_len (by rw [lbS_length]; omega)]
theorem row_ends {k c m r : Nat} {i : Int} (hi : i = 3 * m + 1) (hm : m + 1 ≤ k) : Txt.endswith (Txt.slice (repS k (escS c)) (some i) none) (repS r (escS c)) = decide (m + 1 + r ≤ k) := by
  have hs : (Txt.slice (repS k (escS c)) (some i) none).cps.toList = (repS k (escS c)).cps.toList.drop (3 * m + 1) := by
    rw [slice_from (by omega) (by rw [row_length]; omega), show i.toNat = 3 * m + 1 by omega]
  have hl : (Txt.slice (repS k (escS c)) (some i) none).length = 3 * k - (3 * m + 1) := by
    rw [← lenL, hs, List.length_drop, lenL, row_length]
  unfold Txt.endswith
  rw [hl, row_length]
  by_cases h : m + 1 + r ≤ k
  · rw [decide_eq_true h, decide_eq_true (by omega), Bool.true_and, subAt_eq, hs, row_length, beq_iff_eq, List.drop_drop]
    rw [show 3 * m + 1 + (3 * k - (3 * m + 1) - 3 * r) = 3 * (k - r) by omega, reps_list, reps_list, rl_drop (y_len3 rfl) (by omega), show k - (k - r) = r by omega, List.take_of_length_le]
    rw [rl_length, y_len3 rfl]; omega
  · rw [decide_eq_false h, decide_eq_false (by omega), Bool.false_and]
theorem row_eq {k c r : Nat} : (repS k (escS c) == repS r (escS c)) = decide (k = r) := by
  by_cases h : k = r
  · subst h; simp
  · rw [decide_eq_false h, ne_len]
    rw [row_length, row_length]; omega
end

section
set_option maxRecDepth 100000
theorem pick_tail (v : Value) (vs : List Value) : slicePick (v :: vs).toArray (some 1) none none = vs.toArray := by
  rw [kmk_pick_nat (a := 1) (b := (v :: vs).toArray.size)]
  · show ((v :: vs).drop 1 |>.take ((v :: vs).length - 1)).toArray = _
    simp
  · unfold sliceBounds
    have hs : (1 : Int) ≤ ((v :: vs).toArray.size : Int) := by simp; omega
    generalize ((v :: vs).toArray.size) = n at hs
    show (max 0 (min (if (1 : Int) < 0 then 1 + (n : Int) else 1) (n : Int)), (n : Int), (1 : Int)) = (((1 : Nat) : Int), (n : Int), 1)
    rw [if_neg (by decide)]
    congr 1
    omega
section
variable {prog : Program} {w : World} {A : Around} {E : Value → Shared → Prop} {s : Shared} {value slice : Expr} {x y : Str} {t : Tok} {h₀ : Heap} {L : Addr} {m : Str → Option Value} {news : List (Addr × Obj)} {Q : Value → Shared → Prop}
theorem sl_ns {j : Int} {uj : Tok} (hF : Fr h₀ L s.heap m) (hN : News h₀ L s.heap news) (e : Txt.slice x none (some j) = y) (hsz : x.length ≤ 10000) (h : ∀ h' t' k, Fr h₀ L h' m → News h₀ L h' news → Q (.str y t') { s with heap := h', toks := k })
    (hs : subscripted slice false (.str x t) (.ref s.heap.objs.size) = operate [.ref s.heap.objs.size, .str x t] (getItem (.str x t) (.ref s.heap.objs.size)) := by with_unfolding_all rfl)
    (ht : ∀ r, letTemporaryGo value (.str x t) r = pure () := by intro _; with_unfolding_all rfl) :
    wpAny (model prog w) A (subscriptTail value slice (.str x t) (.ref s.heap.objs.size)) Q E { s with heap := s.heap.push { cls := .type "slice", data := .fields #[.none, .int j uj, .none] } } :=
  slice_strN_ns hF hN (fun h' t' k F' N' => e ▸ h h' t' k F' N') hs ht (by rw [sizeLine_eq]; omega)
theorem sl_sn {i : Int} {ui : Tok} (hF : Fr h₀ L s.heap m) (hN : News h₀ L s.heap news) (e : Txt.slice x (some i) none = y) (hsz : x.length ≤ 10000) (h : ∀ h' t' k, Fr h₀ L h' m → News h₀ L h' news → Q (.str y t') { s with heap := h', toks := k })
    (hs : subscripted slice false (.str x t) (.ref s.heap.objs.size) = operate [.ref s.heap.objs.size, .str x t] (getItem (.str x t) (.ref s.heap.objs.size)) := by with_unfolding_all rfl)
    (ht : ∀ r, letTemporaryGo value (.str x t) r = pure () := by intro _; with_unfolding_all rfl) :
    wpAny (model prog w) A (subscriptTail value slice (.str x t) (.ref s.heap.objs.size)) Q E { s with heap := s.heap.push { cls := .type "slice", data := .fields #[.int i ui, .none, .none] } } :=
  slice_strN_sn hF hN (fun h' t' k F' N' => e ▸ h h' t' k F' N') hs ht (by rw [sizeLine_eq]; omega)
theorem sl_ss {i j : Int} {ui uj : Tok} (hF : Fr h₀ L s.heap m) (hN : News h₀ L s.heap news) (e : Txt.slice x (some i) (some j) = y) (hsz : x.length ≤ 10000) (h : ∀ h' t' k, Fr h₀ L h' m → News h₀ L h' news → Q (.str y t') { s with heap := h', toks := k })
    (hs : subscripted slice false (.str x t) (.ref s.heap.objs.size) = operate [.ref s.heap.objs.size, .str x t] (getItem (.str x t) (.ref s.heap.objs.size)) := by with_unfolding_all rfl)
    (ht : ∀ r, letTemporaryGo value (.str x t) r = pure () := by intro _; with_unfolding_all rfl) :
    wpAny (model prog w) A (subscriptTail value slice (.str x t) (.ref s.heap.objs.size)) Q E { s with heap := s.heap.push { cls := .type "slice", data := .fields #[.int i ui, .int j uj, .none] } } :=
  slice_strN_ss hF hN (fun h' t' k F' N' => e ▸ h h' t' k F' N') hs ht (by rw [sizeLine_eq]; omega)
theorem ne_same {u : Tok} (hxy : x = y) (h : Q (.bool false) s) : wpAny (model prog w) A (compareOp .NotEq (.str x t) (.str y u)) Q E s := by
  refine PyProof.Rows.ne_str ?_
  subst hxy
  rw [bne_self_eq_false]; exact h
theorem ne_by {u : Tok} {b : Bool} (hxy : (x != y) = b) (h : Q (.bool b) s) : wpAny (model prog w) A (compareOp .NotEq (.str x t) (.str y u)) Q E s := by
  refine PyProof.Rows.ne_str ?_
  rw [hxy]; exact h
theorem eq_by {u : Tok} {b : Bool} (hxy : (x == y) = b) (h : Q (.bool b) s) : wpAny (model prog w) A (compareOp .Eq (.str x t) (.str y u)) Q E s := by
  refine PyProof.Rows.eq_str ?_
  rw [hxy]; exact h
theorem ends_by {u : Tok} {b : Bool} (hxy : Txt.endswith x y = b) (h : Q (.bool b) s) : wpAny (model prog w) A (call (.builtin "str.endswith") [.str x t, .str y u]) Q E s := SC.endswith (by rw [hxy]; exact h)
theorem find_by {u v : Tok} {i k : Int} (hxy : Txt.find3 x y i = k) (h : ∀ t' tk, Q (.int k t') { s with toks := tk }) : wpAny (model prog w) A (call (.builtin "str.find") [.str x t, .str y u, .int i v]) Q E s := SC.find3 (by rw [hxy]; exact h _ _)
theorem slice_vals {value slice : Expr} {l : Addr} {v : Value} {vs : List Value} {nn : Nat} {k1 : Tok} (F : Fr h₀ L s.heap m) (N : News h₀ L s.heap news) (hl : (l, listOf (v :: vs).toArray nn) ∈ news) (hz : vs.length ≤ 1000)
    (h : ∀ D h', Fr h₀ L h' m → News h₀ L h' ((D, listOf vs.toArray 0) :: news) → (∀ p ∈ news, p.1 < D) → Q (.ref D) { s with heap := h' })
    (hs : subscripted slice false (.ref l) (.ref s.heap.objs.size) = operate [.ref s.heap.objs.size, .ref l] (getItem (.ref l) (.ref s.heap.objs.size)) := by with_unfolding_all rfl)
    (ht : ∀ r, letTemporaryGo value (.ref l) r = pure () := by intro _; with_unfolding_all rfl) :
    wpAny (model prog w) A (subscriptTail value slice (.ref l) (.ref s.heap.objs.size)) Q E { s with heap := s.heap.push { cls := .type "slice", data := .fields #[.int 1 k1, .none, .none] } } := by
  refine PyProof.Rows.slice_list F N (N.isList hl) (.int 1 k1) .none (fun h' F' N' => ?_) hs ht (by rw [sizeLine_eq]; simp; omega)
  rw [pick_tail] at N'
  exact h _ h' F' N' fun p hp => Nat.lt_succ_of_lt (Heap.lt_size (N p hp).1)
end
end

section
set_option maxRecDepth 100000
section
variable {prog : Program} {w : World} {A : Around} {E : Value → Shared → Prop} {s : Shared} {env : Env} {h₀ : Heap} {x : Str} {body : List Stmt} {Q : Flow → Shared → Prop}
/-- a for over a list: one name of worth, two of none; the ledger stays -/
theorem for_w {ax : Addr} {lo : Obj} {vs : List Value} {n : Nat} {m₀ : Str → Option Value} {news : List (Addr × Obj)} {v₀ : Value} (x₁ x₂ : Str) (P : List Value → Value → Prop)
    (hh : A.handled = none) (F : Fr h₀ env.locals s.heap m₀) (N : News h₀ env.locals s.heap news) (hm : (ax, lo) ∈ news) (hc : lo.cls = .type "list") (hd : lo.data = .seq vs.toArray n) (hx : m₀ x₁ = some v₀) (hP : P vs v₀)
    (turn : ∀ (I : Addr) (v : Value) (r : List Value) (v₁ : Value) (u : Str → Option Value) (it : Obj) (h : Heap) (tk : Nat), (∀ p ∈ news, p.1 < I) → P (v :: r) v₁ →
      Fr h₀ env.locals h (fun y => if y = x then some v else if y = x₁ then some v₁ else if y = x₂ then u y else if y = x then u y else m₀ y) → News h₀ env.locals h ((I, it) :: news) →
      wpAny (model prog w) A (execs body env) (UnrPost h₀ env.locals { s with heap := h, toks := tk } I it (fun m' n' => (ax, lo) ∈ n' ∧ ∃ (v₁ : Value) (u : Str → Option Value), m' = (fun z => if z = x₁ then some v₁ else if z = x₂ then u z else if z = x then u z else m₀ z) ∧ n' = news ∧ P r v₁) Q) E { s with heap := h, toks := tk })
    (last : ∀ (v₁ : Value) (u : Str → Option Value) (h : Heap) (tk : Nat), P [] v₁ → Fr h₀ env.locals h (fun z => if z = x₁ then some v₁ else if z = x₂ then u z else if z = x then u z else m₀ z) → News h₀ env.locals h news → Q .next { s with heap := h, toks := tk }) :
    wpAny (model prog w) A (pyIter (.ref ax)) (fun it s₂ => LoopAtV prog w A h₀ env x body Q E it s₂) E s := by
  refine for_inv (fun r m₁ n₁ => ∃ (v₁ : Value) (u : Str → Option Value), m₁ = (fun z => if z = x₁ then some v₁ else if z = x₂ then u z else if z = x then u z else m₀ z) ∧ n₁ = news ∧ P r v₁) hh F N hm hc hd ⟨v₀, m₀, ?_, rfl, hP⟩ ?_ ?_
  · funext z
    by_cases h1 : z = x₁
    · rw [if_pos h1, h1, hx]
    · rw [if_neg h1]
      by_cases h2 : z = x₂
      · rw [if_pos h2]
      · rw [if_neg h2]; split <;> rfl
  · rintro I v r m₁ n₁ it h tk hI ⟨v₁, u, rfl, rfl, p⟩ hit F' N'
    exact turn I v r v₁ u it h tk hI p F' N'
  · rintro m₁ n₁ h tk ⟨v₁, u, rfl, rfl, p⟩ F' N'
    exact last v₁ u h tk p F' N'
end
theorem map_w {a b d : Str} {V W S w1 : Option Value} {u m : Str → Option Value} (hdb : d ≠ b) :
    (fun y => if y = a then V else if y = b then W else if y = d then S else (if y = a then w1 else if y = b then u y else if y = d then u y else m y)) = (fun z => if z = a then V else if z = b then (fun t => if t = b then W else S) z else if z = d then (fun t => if t = b then W else S) z else m z) := by
  funext z
  by_cases h1 : z = a
  · simp only [h1, if_true]
  · by_cases h2 : z = b
    · simp only [h2, if_true]
    · by_cases h3 : z = d
      · simp only [h1, h2, h3, if_true, if_false]
        simp only [if_neg hdb]
      · simp only [h1, h2, h3, if_false]
theorem wrap_eq (x : Str) : wrapT x = Str.ofString "(?s:" ++ x ++ Str.ofString ")\\Z" := rfl
theorem row_head_y {k c room : Nat} {i : Int} (hi : i = 3 * room + 1) (h : room + 1 ≤ k) : (Txt.slice (repS k (escS c)) none (some i) != lbS c room) = false := by rw [row_head hi, decide_eq_true h]; rfl
theorem row_head_n {k c room : Nat} {i : Int} (hi : i = 3 * room + 1) (h : ¬ room + 1 ≤ k) : (Txt.slice (repS k (escS c)) none (some i) != lbS c room) = true := by rw [row_head hi, decide_eq_false h]; rfl
theorem bne_paren : ((⟨#[41]⟩ : Str) != Str.ofString ")") = false := by decide +kernel
/-- the groups that are left, and the place -/
def JT (c j room k q m : Nat) (vs : List Value) : Prop := ∃ l : List (Str × Tok), vs = strValues l ∧ l.map (·.1) = List.replicate q (grp c room) ∧ m + q * (room + 1) = room + j * (room + 1) ∧ m + 1 ≤ k
theorem JT.start {c j room k : Nat} {l : List (Str × Tok)} (h : l.map (·.1) = List.replicate j (grp c room)) (hk : room + 1 ≤ k) : JT c j room k j room (strValues l) := ⟨l, rfl, h, rfl, hk⟩
theorem JT.cons {c j room k q m : Nat} {v : Value} {r : List Value} (h : JT c j room k q m (v :: r)) : ∃ q' t, q = q' + 1 ∧ v = .str (grp c room) t ∧ (m + room + 2 ≤ k → JT c j room k q' (m + room + 1) r) ∧ m + 1 + room + q' * (room + 1) = room + j * (room + 1) + 0 ∧ m + 1 ≤ k := by
  obtain ⟨l, e, hl, hm, hk⟩ := h
  cases l with
  | nil => cases e
  | cons p l =>
    obtain ⟨y, t⟩ := p
    injection e with e1 e2
    cases q with
    | zero => cases hl
    | succ q =>
      rw [List.replicate_succ] at hl
      injection hl with h1 h2
      have h1' : y = grp c room := h1
      rw [Nat.add_mul, Nat.one_mul] at hm
      exact ⟨q, t, rfl, by rw [e1, h1'], fun h => ⟨l, e2, h2, by omega, by omega⟩, by omega, hk⟩
theorem JT.nil {c j room k q m : Nat} (h : JT c j room k q m []) : m = room + j * (room + 1) ∧ m + 1 ≤ k := by
  obtain ⟨l, e, hl, hm, hk⟩ := h
  cases l with
  | cons p l => cases e
  | nil =>
    cases q with
    | succ q => cases hl
    | zero => rw [Nat.zero_mul] at hm; exact ⟨hm, hk⟩
theorem find_y {k c room m : Nat} {i : Int} (h2 : c < 256) (hroom : 1 ≤ room) (hi : i = 3 * m + 1) (h : m + room + 2 ≤ k) : Txt.find3 (repS k (escS c)) (lbS c room) i = 3 * ((m : Int) + 1) := by rw [find_row h2 hroom hi, if_pos h]
theorem find_n {k c room m : Nat} {i : Int} (h2 : c < 256) (hroom : 1 ≤ room) (hi : i = 3 * m + 1) (h : ¬ m + room + 2 ≤ k) : Txt.find3 (repS k (escS c)) (lbS c room) i = -1 := by rw [find_row h2 hroom hi, if_neg h]
theorem ends_row {prog : Program} {w : World} {A : Around} {E : Value → Shared → Prop} {s : Shared} {k c m r : Nat} {i : Int} {t u : Tok} {Q : Value → Shared → Prop} (hi : i = 3 * m + 1) (hm : m + 1 ≤ k) (h : Q (.bool (decide (m + 1 + r ≤ k))) s) :
    wpAny (model prog w) A (call (.builtin "str.endswith") [.str (Txt.slice (repS k (escS c)) (some i) none) t, .str (repS r (escS c)) u]) Q E s := ends_by (row_ends hi hm) h
end

section
set_option maxRecDepth 100000
/-- what _law_takes answers -/
def tkB (b room r k : Nat) : Bool := if b = 0 then decide (k = r) else decide (b * (room + 1) + r ≤ k)
theorem cut_facts {n room more : Nat} (hr : 1 ≤ room) (hn : 1 ≤ n) (hm : 1 ≤ more) (hm2 : more ≤ 2) : n = room * brk n room more + (n - room * brk n room more) ∧ 1 ≤ n - room * brk n room more ∧ n - room * brk n room more ≤ room ∧ brk n room more ≤ n - 1 := by
  have h1 := brk_in (more := more) (n := n) hr (rfl : room * brk n room more = room * brk n room more) (Nat.le_refl _)
  have e : brk n room more = (n - 1) / room := by
    unfold brk
    rw [show (more + 1) / 2 = 1 by omega]
  have h2 : n - 1 < room * (brk n room more + 1) := by
    rw [e, Nat.mul_comm]
    exact Nat.lt_mul_of_div_lt (Nat.lt_succ_self _) (by omega)
  rw [Nat.mul_add, Nat.mul_one] at h2
  have h3 : brk n room more ≤ n - 1 := by rw [e]; exact Nat.div_le_self _ _
  exact ⟨by omega, by omega, by omega, h3⟩
theorem cut_three {n room more : Nat} (hr : 1 ≤ room) (hn : 1 ≤ n) (hm : 1 ≤ more) (hm2 : more ≤ 2) :
    n - room * brk n room 3 = (if n - room * brk n room more = 1 ∧ 0 < brk n room more then n - room * brk n room more + room else n - room * brk n room more) := by
  have e1 : brk n room more = (n - 1) / room := by
    unfold brk
    rw [show (more + 1) / 2 = 1 by omega]
  have e3 : brk n room 3 = (n - 2) / room := rfl
  have h := cut_facts (more := more) hr hn hm hm2
  generalize hb : brk n room more = b at h e1 ⊢
  by_cases hc : n - room * b = 1 ∧ 0 < b
  · rw [if_pos hc]
    obtain ⟨hc1, hc2⟩ := hc
    obtain ⟨d, rfl⟩ : ∃ d, b = d + 1 := ⟨b - 1, by omega⟩
    have hmul : room * (d + 1) = room * d + room := by rw [Nat.mul_add, Nat.mul_one]
    have h4 : brk n room 3 = d := by
      rw [e3]
      refine Nat.le_antisymm (Nat.le_of_lt_succ ?_) ?_
      · refine (Nat.div_lt_iff_lt_mul (by omega)).mpr ?_
        rw [Nat.succ_mul, Nat.mul_comm d]; omega
      · refine (Nat.le_div_iff_mul_le (by omega)).mpr ?_
        rw [Nat.mul_comm]; omega
    rw [h4]; omega
  · rw [if_neg hc]
    have h4 : brk n room 3 = b := by
      rw [e3]
      by_cases h0 : b = 0
      · subst h0
        exact Nat.div_eq_of_lt (by omega)
      · have hr2 : 2 ≤ n - room * b := by
          have : ¬ n - room * b = 1 := fun q => hc ⟨q, by omega⟩
          omega
        have hmul : room * (b + 1) = room * b + room := by rw [Nat.mul_add, Nat.mul_one]
        refine Nat.le_antisymm (Nat.le_of_lt_succ ?_) ?_
        · refine (Nat.div_lt_iff_lt_mul (by omega)).mpr ?_
          rw [Nat.succ_mul, Nat.mul_comm b]; omega
        · refine (Nat.le_div_iff_mul_le (by omega)).mpr ?_
          rw [Nat.mul_comm]; omega
    rw [h4]
theorem cut_gcd {n room b r : Nat} (h : n = room * b + r) : Nat.gcd n room = Nat.gcd room r := by
  rw [h, Nat.gcd_comm, Nat.add_comm]
  exact Nat.gcd_add_mul_left_right _ _ _
theorem rangeKs_snoc (N : Nat) : rangeKs 0 (N + 1) = rangeKs 0 N ++ [(N : Int)] := by
  unfold rangeKs
  rw [List.range_succ, List.map_append]
  simp
/-- the numbers that are taken -/
def taken (b room r : Nat) (l : List Int) (k : Int) : List Int := if tkB b room r k.toNat = true then l ++ [k] else l
theorem taken_low {b room r T : Nat} (h : ∀ k, k < T → tkB b room r k = false) : ∀ N, N ≤ T → (rangeKs 0 N).foldl (taken b room r) [] = [] := by
  intro N
  induction N with
  | zero => intro _; rfl
  | succ N ih =>
    intro hN
    rw [rangeKs_snoc, List.foldl_append, ih (by omega)]
    show taken b room r [] (N : Int) = []
    unfold taken
    rw [Int.toNat_natCast, h N (by omega), if_neg Bool.false_ne_true]
theorem taken_zero {room r n : Nat} (hr : r = n) : (rangeKs 0 (n + 0 + 2)).foldl (taken 0 room r) [] = [(n : Int)] := by
  subst hr
  have hlow := taken_low (b := 0) (room := room) (r := r) (T := r) (fun k hk => by unfold tkB; rw [if_pos rfl]; exact decide_eq_false (by omega)) r (Nat.le_refl _)
  rw [show r + 0 + 2 = r + 1 + 1 by omega, rangeKs_snoc, rangeKs_snoc, List.foldl_append, List.foldl_append, hlow]
  show taken 0 room r (taken 0 room r [] (r : Int)) ((r + 1 : Nat) : Int) = _
  unfold taken tkB
  rw [Int.toNat_natCast, Int.toNat_natCast, if_pos rfl, if_pos rfl, if_pos (decide_eq_true rfl), if_neg (by simp)]
  rfl
theorem taken_pos {b room r n : Nat} (hb : 0 < b) (hn : n = room * b + r) : (rangeKs 0 (n + b + 2)).foldl (taken b room r) [] = [((n + b : Nat) : Int), ((n + b + 1 : Nat) : Int)] := by
  have hT : b * (room + 1) + r = n + b := by rw [Nat.mul_add, Nat.mul_one, Nat.mul_comm b]; omega
  have ht : ∀ k, tkB b room r k = decide (n + b ≤ k) := fun k => by unfold tkB; rw [if_neg (by omega), hT]
  have hlow := taken_low (b := b) (room := room) (r := r) (T := n + b) (fun k hk => by rw [ht]; exact decide_eq_false (by omega)) (n + b) (Nat.le_refl _)
  rw [show n + b + 2 = n + b + 1 + 1 by omega, rangeKs_snoc, rangeKs_snoc, List.foldl_append, List.foldl_append, hlow]
  show taken b room r (taken b room r [] ((n + b : Nat) : Int)) ((n + b + 1 : Nat) : Int) = _
  unfold taken
  rw [Int.toNat_natCast, Int.toNat_natCast, ht, ht, decide_eq_true (Nat.le_refl _), decide_eq_true (Nat.le_succ _), if_pos rfl, if_pos rfl]
  rfl
theorem taken_grows (b room r : Nat) : KPfGrows (taken b room r) := by
  intro l k
  unfold taken
  split
  · rw [List.length_append]; exact Nat.le_refl _
  · exact Nat.le_succ _
end

section
set_option maxRecDepth 100000
theorem foldl_cat (x : Array Nat) : ∀ (n : Nat) (acc : Array Nat), ((List.replicate n x).foldl (· ++ ·) acc).toList = acc.toList ++ (List.replicate n x.toList).flatten := by
  intro n
  induction n with
  | zero => intro acc; exact (List.append_nil _).symm
  | succ n ih =>
    intro acc
    rw [List.replicate_succ, List.foldl_cons, ih, Array.toList_append, List.replicate_succ, List.flatten_cons, List.append_assoc]
theorem mul_rep {x : Str} (hx : 1 ≤ x.length) (k : Nat) : Txt.mul x (k : Int) = repS k x := by
  unfold Txt.mul
  by_cases h0 : (k : Int) < 1
  · rw [if_pos h0]
    have : k = 0 := by omega
    subst this; rfl
  · rw [if_neg h0]
    by_cases h1 : k = 1
    · subst h1
      rw [if_pos (by simp)]
      apply str_ext
      rw [reps_list, rl_succ]
      exact (List.append_nil _).symm
    · rw [if_neg]
      · apply str_ext
        show ((List.replicate (k : Int).toNat x.cps).foldl (· ++ ·) #[]).toList = _
        rw [foldl_cat, Int.toNat_natCast]; rfl
      · rw [Bool.or_eq_true, beq_iff_eq, beq_iff_eq]
        omega
theorem rep_one (k c : Nat) : repS k ⟨#[c]⟩ = sgn k c := by
  apply str_ext
  rw [reps_list, sgn_list]
  induction k with
  | zero => rfl
  | succ k ih => rw [rl_succ, List.replicate_succ]; exact congrArg (c :: ·) ih
section
variable {prog : Program} {w : World} {A : Around} {E : Value → Shared → Prop} {s : Shared} {t u : Tok} {Q : Value → Shared → Prop}
theorem mul_sign {c k : Nat} {i : Int} (hi : i = (k : Int)) (hk : k ≤ 1000) (h : ∀ t' tk, Q (.str (sgn k c) t') { s with toks := tk }) : wpAny (model prog w) A (binaryOp .Mult (.str ⟨#[c]⟩ t) (.int i u)) Q E s := by
  subst hi
  refine SB.mul (mulOk_of 16 1048576 (by show 1 ≤ 16; decide) (by omega) (by omega) (by decide) (by decide)) ?_
  rw [mul_rep (x := ⟨#[c]⟩) (by show 1 ≤ 1; decide), rep_one]; exact h
theorem mul_esc {c : Nat} {i : Int} (h0 : 0 ≤ i) (hk : i ≤ 1000) (h : ∀ t' tk, Q (.str (repS i.toNat (escS c)) t') { s with toks := tk }) : wpAny (model prog w) A (binaryOp .Mult (.str (escS c) t) (.int i u)) Q E s := by
  obtain ⟨k, rfl⟩ : ∃ k : Nat, i = k := ⟨i.toNat, by omega⟩
  refine SB.mul (mulOk_of 16 1048576 (by show 3 ≤ 16; decide) (by omega) (by omega) (by decide) (by decide)) ?_
  rw [mul_rep (x := escS c) (by show 1 ≤ 3; decide)]
  rw [Int.toNat_natCast] at h; exact h
theorem len_sgn {k c : Nat} (hk : k ≤ 1000) (h : ∀ t' tk, Q (.int (k : Int) t') { s with toks := tk }) : wpAny (model prog w) A (call (.builtin "len") [.str (sgn k c) t]) Q E s := by
  refine SBL.len (by rw [sgn_length]; omega) ?_
  rw [sgn_length]; exact h _ _
theorem div_by {a b q : Int} (hb : 0 < b) (e : a = q * b) (hb2 : b ≤ 1000) (h : ∀ t' tk, Q (.int q t') { s with toks := tk }) : wpAny (model prog w) A (binaryOp .FloorDiv (.int a t) (.int b u)) Q E s := by
  refine floordiv_int (by omega) ?_ (Or.inl (PyProof.noPylong_small (by omega)))
  have : a.fdiv b = q := by
    rw [e]; exact Int.mul_fdiv_cancel _ (by omega)
  rw [this]; exact h _ _
theorem ne_sgn {k k2 c : Nat} (e : k = k2) (h : Q (.bool false) s) : wpAny (model prog w) A (compareOp .NotEq (.str (sgn k c) t) (.str (sgn k2 c) u)) Q E s := ne_same (by rw [e]) h
end
end

section
set_option maxRecDepth 100000
section
variable {prog : Program} {w : World} {A : Around} {E : Value → Shared → Prop} {s : Shared} {env : Env} {h₀ : Heap} {Q : Flow → Shared → Prop}
/-- a while that may return: two names of worth, five of none, an object of the ledger -/
theorem while_d {test : Expr} {body : List Stmt} {pos : Pos} {m : Str → Option Value} {L D : Addr} {v₁ v₂ : Value} {o₀ : Obj} {pre post : List (Addr × Obj)} (x₁ x₂ y₁ y₂ y₃ y₄ y₅ : Str) (P : Nat → Value → Value → Obj → Prop) {n₀ : Nat}
    (F : Fr h₀ L s.heap m) (N : News h₀ L s.heap (pre ++ (D, o₀) :: post)) (hx : m x₁ = some v₁) (hx2 : m x₂ = some v₂) (hP : P n₀ v₁ v₂ o₀)
    (turn : ∀ n v v' o (u : Str → Option Value) h tk, P n v v' o → Fr h₀ L h (fun z => if z = x₁ then some v else if z = x₂ then some v' else if z = y₁ then u z else if z = y₂ then u z else if z = y₃ then u z else if z = y₄ then u z else if z = y₅ then u z else m z) → News h₀ L h (pre ++ (D, o) :: post) →
      wpAny (model prog w) A (isTrue test env (eval test env)) (fun b s₂ =>
        if b = true then wpAny (model prog w) A (execs body env) (WhileStep2 h₀ L s (fun n m₁ news₁ => ∃ v v' o, ∃ u : Str → Option Value, m₁ = (fun z => if z = x₁ then some v else if z = x₂ then some v' else if z = y₁ then u z else if z = y₂ then u z else if z = y₃ then u z else if z = y₄ then u z else if z = y₅ then u z else m z) ∧ news₁ = pre ++ (D, o) :: post ∧ P n v v' o) Q n) E s₂ else Q .next s₂) E { s with heap := h, toks := tk })
    (hE : PassesOwn (model prog w) A env E) :
    wpAny (model prog w) A (exec (.While test body [] pos) env) Q E s := by
  refine While_inv2 (fun n m₁ news₁ => ∃ v v' o, ∃ u : Str → Option Value, m₁ = (fun z => if z = x₁ then some v else if z = x₂ then some v' else if z = y₁ then u z else if z = y₂ then u z else if z = y₃ then u z else if z = y₄ then u z else if z = y₅ then u z else m z) ∧ news₁ = pre ++ (D, o) :: post ∧ P n v v' o) (n₀ := n₀) F N ⟨v₁, v₂, o₀, m, ?_, rfl, hP⟩ ?_ hE
  · funext z
    by_cases h1 : z = x₁
    · rw [if_pos h1, h1, hx]
    · rw [if_neg h1]
      by_cases h2 : z = x₂
      · rw [if_pos h2, h2, hx2]
      · rw [if_neg h2]; repeat (split; rfl)
        rfl
  · rintro n m₁ news₁ h₁ tk₁ F₁ N₁ ⟨v, v', o, u, rfl, rfl, p⟩
    exact turn n v v' o u h₁ tk₁ p F₁ N₁
end
theorem map_d {g m : Str → Option Value} {x₁ x₂ y₁ y₂ y₃ y₄ y₅ : Str} {V₁ V₂ : Value} (h1 : g x₁ = some V₁) (h2 : g x₂ = some V₂) (hm : ∀ z, z ≠ x₁ → z ≠ x₂ → z ≠ y₁ → z ≠ y₂ → z ≠ y₃ → z ≠ y₄ → z ≠ y₅ → g z = m z) :
    g = (fun z => if z = x₁ then some V₁ else if z = x₂ then some V₂ else if z = y₁ then g z else if z = y₂ then g z else if z = y₃ then g z else if z = y₄ then g z else if z = y₅ then g z else m z) := by
  funext z
  by_cases a1 : z = x₁
  · rw [if_pos a1, a1, h1]
  · rw [if_neg a1]
    by_cases a2 : z = x₂
    · rw [if_pos a2, a2, h2]
    · rw [if_neg a2]
      by_cases a3 : z = y₁
      · rw [if_pos a3]
      · rw [if_neg a3]
        by_cases a4 : z = y₂
        · rw [if_pos a4]
        · rw [if_neg a4]
          by_cases a5 : z = y₃
          · rw [if_pos a5]
          · rw [if_neg a5]
            by_cases a6 : z = y₄
            · rw [if_pos a6]
            · rw [if_neg a6]
              by_cases a7 : z = y₅
              · rw [if_pos a7]
              · rw [if_neg a7]; exact hm z a1 a2 a3 a4 a5 a6 a7
theorem WhileStep2.intro {h₀ : Heap} {L : Addr} {s : Shared} {J : Nat → (Str → Option Value) → List (Addr × Obj) → Prop} {Q : Flow → Shared → Prop} {n n' : Nat} {h' : Heap} {tk : Nat} {m₂ : Str → Option Value} {news₂ : List (Addr × Obj)} (F : Fr h₀ L h' m₂) (N : News h₀ L h' news₂) (hn : n' < n) (j : J n' m₂ news₂) : WhileStep2 h₀ L s J Q n .next { s with heap := h', toks := tk } :=
  ⟨h', tk, m₂, news₂, n', rfl, F, N, hn, j⟩
end

section
set_option maxRecDepth 100000
theorem two_ints {ws zs : List Value} {ns : List Int} (h1 : IntsAre ws (ns.take 2)) (h2 : IntsAre zs (([5, 3] : List Int).drop (ns.take 2).length)) : ∃ t t' : Tok, ws ++ zs = [.int (ns.getD 0 5) t, .int (ns.getD 1 3) t'] := by
  match ns, h1, h2 with
  | [], h1, h2 =>
    have h1' : IntsAre ws [] := h1
    have h2' : IntsAre zs [5, 3] := h2
    cases h1'
    cases h2' with
    | cons n t h => cases h with
      | cons n t' h => cases h; exact ⟨t, t', rfl⟩
  | [x], h1, h2 =>
    have h1' : IntsAre ws [x] := h1
    have h2' : IntsAre zs [3] := h2
    cases h1' with
    | cons n t h =>
      cases h
      cases h2' with
      | cons n t' h => cases h; exact ⟨t, t', rfl⟩
  | x :: y :: r, h1, h2 =>
    have h1' : IntsAre ws [x, y] := h1
    have h2' : IntsAre zs [] := h2
    cases h1' with
    | cons n t h => cases h with
      | cons n t' h => cases h; cases h2'; exact ⟨t, t', rfl⟩
section
variable {prog : Program} {w : World} {A : Around} {E : Value → Shared → Prop} {s : Shared} {h₀ : Heap} {L : Addr} {m : Str → Option Value} {news : List (Addr × Obj)} {Q : Value → Shared → Prop}
theorem slice_53 {value slice : Expr} {l : Addr} {t1 t2 : Tok} {nn : Nat} {i : Int} {k1 : Tok} {k : Nat} (F : Fr h₀ L s.heap m) (N : News h₀ L s.heap news) (hl : (l, listOf #[.int 5 t1, .int 3 t2] nn) ∈ news) (hi : i = (k : Int))
    (h : ∀ D zs h', IntsAre zs (([5, 3] : List Int).drop k) → Fr h₀ L h' m → News h₀ L h' ((D, listOf zs.toArray 0) :: news) → (∀ p ∈ news, p.1 < D) → Q (.ref D) { s with heap := h' })
    (hs : subscripted slice false (.ref l) (.ref s.heap.objs.size) = operate [.ref s.heap.objs.size, .ref l] (getItem (.ref l) (.ref s.heap.objs.size)) := by with_unfolding_all rfl) :
    wpAny (model prog w) A (subscriptTail value slice (.ref l) (.ref s.heap.objs.size)) Q E { s with heap := s.heap.push { cls := .type "slice", data := .fields #[.int i k1, .none, .none] } } := by
  subst hi
  have hL := N.isList hl
  refine tail_any (Heap.IsList.typeIs (s := { s with heap := s.heap.push { cls := .type "slice", data := .fields #[.int (k : Int) k1, .none, .none] } }) (hL.push _)) list_getitem_lookup
    (wpAny_getItem_list_slice (hL.push _) (Heap.IsSliceOf.new ..) (.int (k : Int) k1) .none .none (by simp) ?_ (by rw [sizeLine_eq]; show 2 ≤ 16777216; decide)) hs
  have hk := kmk_from (x := (k : Int)) (vs := [.int 5 t1, .int 3 t2]) (ns := [5, 3]) (.cons _ _ (.cons _ _ .nil)) (by omega)
  rw [Int.toNat_natCast] at hk
  have N1 := News.push (F.push { cls := .type "slice", data := .fields #[.int (k : Int) k1, .none, .none] }) (N.grown fun _ _ e => Heap.get?_push_of_some _ e) { cls := .type "list", data := .seq (slicePick #[.int 5 t1, .int 3 t2] (some (k : Int)) none none) }
  rw [Heap.size_push] at N1
  show Q (.ref (s.heap.push _).objs.size) _
  rw [Heap.size_push]
  refine h _ _ _ hk ((F.push _).push _) ?_ (fun p hp => Nat.lt_succ_of_lt (Heap.lt_size (N p hp).1))
  rw [Array.toArray_toList]
  exact N1
theorem add_two {a b : Addr} {ws zs : List Value} {ns : List Int} {n1 n2 : Nat} (F : Fr h₀ L s.heap m) (N : News h₀ L s.heap news) (ha : (a, listOf ws.toArray n1) ∈ news) (hb : (b, listOf zs.toArray n2) ∈ news) (h1 : IntsAre ws (ns.take 2)) (h2 : IntsAre zs (([5, 3] : List Int).drop (ns.take 2).length))
    (h : ∀ D h' t t', Fr h₀ L h' m → News h₀ L h' ((D, listOf #[.int (ns.getD 0 5) t, .int (ns.getD 1 3) t'] 0) :: news) → (∀ p ∈ news, p.1 < D) → Q (.ref D) { s with heap := h' }) :
    wpAny (model prog w) A (binaryOp .Add (.ref a) (.ref b)) Q E s := by
  obtain ⟨t, t', e⟩ := two_ints h1 h2
  have hle := congrArg List.length e
  rw [List.length_append] at hle
  refine PyProof.Rows.add_arrays F N (N.isList ha) (N.isList hb) (fun h' F' N' => ?_) (by rw [sizeLine_eq]; simp at hle ⊢; omega)
  have e2 : (ws.toArray.toList ++ zs.toArray.toList).toArray = #[.int (ns.getD 0 5) t, .int (ns.getD 1 3) t'] := by
    show (ws ++ zs).toArray = _
    rw [e]
  rw [e2] at N'
  exact h _ h' t t' F' N' (fun p hp => Heap.lt_size (N p hp).1)
end
/-- the common divisors -/
def comm (p q : Int) (l : List Int) (k : Int) : List Int := if p.fmod k = 0 ∧ q.fmod k = 0 then l ++ [k] else l
theorem comm_grows (p q : Int) : KPfGrows (comm p q) := by
  intro l k
  unfold comm
  split
  · rw [List.length_append]; exact Nat.le_refl _
  · exact Nat.le_succ _
theorem comm_all : (List.range 12).all (fun a => (List.range 12).all fun b => decide (((rangeKs 1 12).foldl (comm ((a : Int) + 1) ((b : Int) + 1)) []).getLast? = some (((a + 1).gcd (b + 1) : Nat) : Int))) = true := by decide +kernel
theorem comm_last {p q : Nat} (hp : 1 ≤ p) (hp2 : p ≤ 12) (hq : 1 ≤ q) (hq2 : q ≤ 12) : ∃ pre, (rangeKs 1 12).foldl (comm (p : Int) (q : Int)) [] = pre ++ [((p.gcd q : Nat) : Int)] := by
  have h1 := List.all_eq_true.mp comm_all (p - 1) (List.mem_range.mpr (by omega))
  have h2 := of_decide_eq_true (List.all_eq_true.mp h1 (q - 1) (List.mem_range.mpr (by omega)))
  rw [show p - 1 + 1 = p by omega, show q - 1 + 1 = q by omega, show (((p - 1 : Nat) : Int) + 1) = (p : Int) by omega, show (((q - 1 : Nat) : Int) + 1) = (q : Int) by omega] at h2
  exact List.getLast?_eq_some_iff.mp h2
theorem IntsAre.snoc_inv {ys : List Value} {ms : List Int} {v : Int} (h : IntsAre ys (ms ++ [v])) : ∃ (zs : List Value) (t : Tok), ys = zs ++ [.int v t] := by
  induction ms generalizing ys with
  | nil =>
    have h' : IntsAre ys [v] := h
    cases h' with
    | cons n t h => cases h; exact ⟨[], t, rfl⟩
  | cons a ms ih =>
    cases h with
    | cons n t h =>
      obtain ⟨zs, t', rfl⟩ := ih h
      exact ⟨.int a t :: zs, t', rfl⟩
end

section
set_option maxRecDepth 100000
theorem one_of (a : Int) : ∃ p : Nat, 1 + a.fmod 12 = (p : Int) ∧ 1 ≤ p ∧ p ≤ 12 := by
  have h1 := Int.fmod_nonneg_of_pos a (b := 12) (by decide)
  have h2 := Int.fmod_lt_of_pos a (b := 12) (by decide)
  exact ⟨(1 + a.fmod 12).toNat, by omega, by omega, by omega⟩
theorem pair_two {ys : List Value} {a b : Int} (h : IntsAre ys (List.map (fun k' : Int => 1 + k'.fmod 12) [a, b])) : ∃ (p q : Nat) (t t' : Tok), ys = [.int (p : Int) t, .int (q : Int) t'] ∧ 1 ≤ p ∧ p ≤ 12 ∧ 1 ≤ q ∧ q ≤ 12 := by
  obtain ⟨p, hp, hp1, hp2⟩ := one_of a
  obtain ⟨q, hq, hq1, hq2⟩ := one_of b
  have h' : IntsAre ys [1 + a.fmod 12, 1 + b.fmod 12] := h
  rw [hp, hq] at h'
  cases h' with
  | cons n t h => cases h with
    | cons n t' h => cases h; exact ⟨p, q, t, t', rfl, hp1, hp2, hq1, hq2⟩
section
variable {prog : Program} {w : World} {A : Around} {E : Value → Shared → Prop} {s : Shared} {t u : Tok} {Q : Value → Shared → Prop} {a b : Int} {h₀ : Heap} {L : Addr} {news : List (Addr × Obj)}
theorem eq_int_y (e : a = b) (h : Q (.bool true) s) : wpAny (model prog w) A (compareOp .Eq (.int a t) (.int b u)) Q E s := by
  refine PyProof.Rows.eq_int ?_
  subst e; rw [beq_self_eq_true]; exact h
theorem eq_int_n (e : ¬ a = b) (h : Q (.bool false) s) : wpAny (model prog w) A (compareOp .Eq (.int a t) (.int b u)) Q E s := by
  refine PyProof.Rows.eq_int ?_
  rw [beq_eq_false_iff_ne.mpr e]; exact h
theorem mod_by (hb : 1 ≤ b) (h : ∀ t' tk, Q (.int (a.fmod b) t') { s with toks := tk }) : wpAny (model prog w) A (binaryOp .Mod (.int a t) (.int b u)) Q E s :=
  PyProof.Rows.mod_int (by omega) (h _ _)
theorem item_snoc {value slice : Expr} {l : Addr} {zs : List Value} {v : Value} {nn : Nat} {k : Int} (N : News h₀ L s.heap news) (hm : (l, listOf (zs ++ [v]).toArray nn) ∈ news) (hk : k = -1) (h : Q v s)
    (hs : subscripted slice false (.ref l) (.int k u) = operate [.ref l, .int k u] (getItem (.ref l) (.int k u)) := by with_unfolding_all rfl) : wpAny (model prog w) A (subscriptTail value slice (.ref l) (.int k u)) Q E s :=
  item_row_last N hm (by simp) hk (by simp) h hs
end
end

section
set_option maxRecDepth 100000
set_option linter.unusedVariables false
abbrev pw : Program := PySem.Challenge.pw_rt0056_01
def noPos : Pos := ⟨0, 0, 0, 0⟩
def st (n : Nat) : Stmt := (behindTheImports pw).getD n (.Pass noPos)
def mem (s : Stmt) (n : Nat) : Stmt := match s with
  | .ClassDef _ _ _ body _ _ _ _ _ _ _ => body.getD n (.Pass noPos)
  | _ => .Pass noPos
def argsOf : Stmt → Arguments
  | .FunctionDef _ a _ _ _ _ _ _ _ _ => a
  | _ => ⟨[], [], none, [], [], none, []⟩
def bodyOf : Stmt → List Stmt
  | .FunctionDef _ _ b _ _ _ _ _ _ _ => b
  | .For _ _ b _ _ => b
  | _ => []
def scopeOf : Stmt → Scope
  | .FunctionDef _ _ _ _ _ _ s _ _ _ => s
  | _ => ⟨.module, [], false, false, []⟩
def noEx : PySem.Expr := .Name (Str.ofString "x") noPos
def valOf : Stmt → PySem.Expr
  | .Assign _ v _ => v
  | .For t _ _ _ _ => t
  | _ => noEx
def elseOf : Stmt → List Stmt
  | .For _ _ _ e _ => e
  | _ => []
def compScope : PySem.Expr → Scope
  | .ListComp _ _ s _ => s
  | .DictComp _ _ _ s _ => s
  | _ => ⟨.module, [], false, false, []⟩
abbrev litA {s : Stmt} {n : Str} {a : Arguments} {b : List Stmt} {d : List PySem.Expr} {r : Option PySem.Expr} {t : List TypeParam} {c : Scope} {ts : Option Scope} {bi : Str} {p : Pos} (_ : s = .FunctionDef n a b d r t c ts bi p) : Arguments := a
abbrev litB {s : Stmt} {n : Str} {a : Arguments} {b : List Stmt} {d : List PySem.Expr} {r : Option PySem.Expr} {t : List TypeParam} {c : Scope} {ts : Option Scope} {bi : Str} {p : Pos} (_ : s = .FunctionDef n a b d r t c ts bi p) : List Stmt := b
abbrev litS {s : Stmt} {n : Str} {a : Arguments} {b : List Stmt} {d : List PySem.Expr} {r : Option PySem.Expr} {t : List TypeParam} {c : Scope} {ts : Option Scope} {bi : Str} {p : Pos} (_ : s = .FunctionDef n a b d r t c ts bi p) : Scope := c
def hexd (n : Nat) : Nat := match Nat.blt n 10 with | true => 48 + n | false => 55 + n
def tx (j : Nat) : Value := .str ⟨⟨[61, hexd (j / 16), hexd (j % 16)]⟩⟩ (299 + 4 * j)
def it3 (i : Nat) : Obj := ⟨.type "range_iterator", none, .fields #[.int (Int.ofNat i) 0, .int (Int.ofNat (256 - i)) 0, .int 1 0], #[]⟩
def li3 (i : Nat) : Obj := ⟨.type "list", none, .seq ⟨(List.range i).map tx⟩ i, #[]⟩
def lo3 (P : Params) (i : Nat) : Obj := ⟨.type "dict", none, .dict #[⟨PyData.keyHash P (Str.ofString "c"), .str (Str.ofString "c") 297, .int (Int.ofNat (i - 1)) (296 + 4 * (i - 1))⟩] 1, #[]⟩
def tok_h3 (i : Nat) : Nat := 296 + 4 * i
def itemsOf : Obj → List Value
  | ⟨_, _, .seq xs _, _⟩ => xs.toList
  | _ => []
def entsOf : Obj → List DictEntry
  | ⟨_, _, .dict xs _, _⟩ => xs.toList
  | _ => []
def pick (n : Nat) (f t : Value) : Value := match f with
  | .str _ k => (match Nat.blt k n with | true => f | false => t)
  | _ => t
noncomputable def ob_0 (P : Params) : Obj := ⟨.type "dict", none, .dict (List.toArray (⟨PyData.keyHash P (Str.ofString "__name__"), .str (Str.ofString "__name__") 1, .str (Str.ofString "builtins") 160⟩ :: ⟨PyData.keyHash P (Str.ofString "__doc__"), .str (Str.ofString "__doc__") 2, .builtin "builtins.__doc__:str#opaque"⟩ :: ⟨PyData.keyHash P (Str.ofString "__package__"), .str (Str.ofString "__package__") 3, .builtin "builtins.__package__:str#opaque"⟩ :: ⟨PyData.keyHash P (Str.ofString "__loader__"), .str (Str.ofString "__loader__") 4, .builtin "builtins.__loader__:shared#opaque"⟩ :: ⟨PyData.keyHash P (Str.ofString "__spec__"), .str (Str.ofString "__spec__") 5, .builtin "builtins.__spec__#opaque"⟩ :: ⟨PyData.keyHash P (Str.ofString "__build_class__"), .str (Str.ofString "__build_class__") 6, .builtin "__build_class__"⟩ :: ⟨PyData.keyHash P (Str.ofString "__import__"), .str (Str.ofString "__import__") 7, .builtin "__import__"⟩ :: ⟨PyData.keyHash P (Str.ofString "abs"), .str (Str.ofString "abs") 8, .builtin "abs"⟩ :: ⟨PyData.keyHash P (Str.ofString "all"), .str (Str.ofString "all") 9, .builtin "all"⟩ :: ⟨PyData.keyHash P (Str.ofString "any"), .str (Str.ofString "any") 10, .builtin "any"⟩ :: ⟨PyData.keyHash P (Str.ofString "ascii"), .str (Str.ofString "ascii") 11, .builtin "ascii"⟩ :: ⟨PyData.keyHash P (Str.ofString "bin"), .str (Str.ofString "bin") 12, .builtin "bin"⟩ :: ⟨PyData.keyHash P (Str.ofString "breakpoint"), .str (Str.ofString "breakpoint") 13, .builtin "breakpoint"⟩ :: ⟨PyData.keyHash P (Str.ofString "callable"), .str (Str.ofString "callable") 14, .builtin "callable"⟩ :: ⟨PyData.keyHash P (Str.ofString "chr"), .str (Str.ofString "chr") 15, .builtin "chr"⟩ :: ⟨PyData.keyHash P (Str.ofString "compile"), .str (Str.ofString "compile") 16, .builtin "compile"⟩ :: ⟨PyData.keyHash P (Str.ofString "delattr"), .str (Str.ofString "delattr") 17, .builtin "delattr"⟩ :: ⟨PyData.keyHash P (Str.ofString "dir"), .str (Str.ofString "dir") 18, .builtin "dir"⟩ :: ⟨PyData.keyHash P (Str.ofString "divmod"), .str (Str.ofString "divmod") 19, .builtin "divmod"⟩ :: ⟨PyData.keyHash P (Str.ofString "eval"), .str (Str.ofString "eval") 20, .builtin "eval"⟩ :: ⟨PyData.keyHash P (Str.ofString "exec"), .str (Str.ofString "exec") 21, .builtin "exec"⟩ :: ⟨PyData.keyHash P (Str.ofString "format"), .str (Str.ofString "format") 22, .builtin "format"⟩ :: ⟨PyData.keyHash P (Str.ofString "getattr"), .str (Str.ofString "getattr") 23, .builtin "getattr"⟩ :: ⟨PyData.keyHash P (Str.ofString "globals"), .str (Str.ofString "globals") 24, .builtin "globals"⟩ :: ⟨PyData.keyHash P (Str.ofString "hasattr"), .str (Str.ofString "hasattr") 25, .builtin "hasattr"⟩ :: ⟨PyData.keyHash P (Str.ofString "hash"), .str (Str.ofString "hash") 26, .builtin "hash"⟩ :: ⟨PyData.keyHash P (Str.ofString "hex"), .str (Str.ofString "hex") 27, .builtin "hex"⟩ :: ⟨PyData.keyHash P (Str.ofString "id"), .str (Str.ofString "id") 28, .builtin "id"⟩ :: ⟨PyData.keyHash P (Str.ofString "input"), .str (Str.ofString "input") 29, .builtin "input"⟩ :: ⟨PyData.keyHash P (Str.ofString "isinstance"), .str (Str.ofString "isinstance") 30, .builtin "isinstance"⟩ :: ⟨PyData.keyHash P (Str.ofString "issubclass"), .str (Str.ofString "issubclass") 31, .builtin "issubclass"⟩ :: ⟨PyData.keyHash P (Str.ofString "iter"), .str (Str.ofString "iter") 32, .builtin "iter"⟩ :: ⟨PyData.keyHash P (Str.ofString "aiter"), .str (Str.ofString "aiter") 33, .builtin "aiter"⟩ :: ⟨PyData.keyHash P (Str.ofString "len"), .str (Str.ofString "len") 34, .builtin "len"⟩ :: ⟨PyData.keyHash P (Str.ofString "locals"), .str (Str.ofString "locals") 35, .builtin "locals"⟩ :: ⟨PyData.keyHash P (Str.ofString "max"), .str (Str.ofString "max") 36, .builtin "max"⟩ :: ⟨PyData.keyHash P (Str.ofString "min"), .str (Str.ofString "min") 37, .builtin "min"⟩ :: ⟨PyData.keyHash P (Str.ofString "next"), .str (Str.ofString "next") 38, .builtin "next"⟩ :: ⟨PyData.keyHash P (Str.ofString "anext"), .str (Str.ofString "anext") 39, .builtin "anext"⟩ :: ⟨PyData.keyHash P (Str.ofString "oct"), .str (Str.ofString "oct") 40, .builtin "oct"⟩ :: ⟨PyData.keyHash P (Str.ofString "ord"), .str (Str.ofString "ord") 41, .builtin "ord"⟩ :: ⟨PyData.keyHash P (Str.ofString "pow"), .str (Str.ofString "pow") 42, .builtin "pow"⟩ :: ⟨PyData.keyHash P (Str.ofString "print"), .str (Str.ofString "print") 43, .builtin "print"⟩ :: ⟨PyData.keyHash P (Str.ofString "repr"), .str (Str.ofString "repr") 44, .builtin "repr"⟩ :: ⟨PyData.keyHash P (Str.ofString "round"), .str (Str.ofString "round") 45, .builtin "round"⟩ :: ⟨PyData.keyHash P (Str.ofString "setattr"), .str (Str.ofString "setattr") 46, .builtin "setattr"⟩ :: ⟨PyData.keyHash P (Str.ofString "sorted"), .str (Str.ofString "sorted") 47, .builtin "sorted"⟩ :: ⟨PyData.keyHash P (Str.ofString "sum"), .str (Str.ofString "sum") 48, .builtin "sum"⟩ :: ⟨PyData.keyHash P (Str.ofString "vars"), .str (Str.ofString "vars") 49, .builtin "vars"⟩ :: ⟨PyData.keyHash P (Str.ofString "None"), .str (Str.ofString "None") 50, .none⟩ :: ⟨PyData.keyHash P (Str.ofString "Ellipsis"), .str (Str.ofString "Ellipsis") 51, .ellipsis⟩ :: ⟨PyData.keyHash P (Str.ofString "NotImplemented"), .str (Str.ofString "NotImplemented") 52, .notImplemented⟩ :: ⟨PyData.keyHash P (Str.ofString "False"), .str (Str.ofString "False") 53, .bool false⟩ :: ⟨PyData.keyHash P (Str.ofString "True"), .str (Str.ofString "True") 54, .bool true⟩ :: ⟨PyData.keyHash P (Str.ofString "bool"), .str (Str.ofString "bool") 55, .type "bool"⟩ :: ⟨PyData.keyHash P (Str.ofString "memoryview"), .str (Str.ofString "memoryview") 56, .type "memoryview"⟩ :: ⟨PyData.keyHash P (Str.ofString "bytearray"), .str (Str.ofString "bytearray") 57, .type "bytearray"⟩ :: ⟨PyData.keyHash P (Str.ofString "bytes"), .str (Str.ofString "bytes") 58, .type "bytes"⟩ :: ⟨PyData.keyHash P (Str.ofString "classmethod"), .str (Str.ofString "classmethod") 59, .type "classmethod"⟩ :: ⟨PyData.keyHash P (Str.ofString "complex"), .str (Str.ofString "complex") 60, .type "complex"⟩ :: ⟨PyData.keyHash P (Str.ofString "dict"), .str (Str.ofString "dict") 61, .type "dict"⟩ :: ⟨PyData.keyHash P (Str.ofString "enumerate"), .str (Str.ofString "enumerate") 62, .type "enumerate"⟩ :: ⟨PyData.keyHash P (Str.ofString "filter"), .str (Str.ofString "filter") 63, .type "filter"⟩ :: ⟨PyData.keyHash P (Str.ofString "float"), .str (Str.ofString "float") 64, .type "float"⟩ :: ⟨PyData.keyHash P (Str.ofString "frozenset"), .str (Str.ofString "frozenset") 65, .type "frozenset"⟩ :: ⟨PyData.keyHash P (Str.ofString "property"), .str (Str.ofString "property") 66, .type "property"⟩ :: ⟨PyData.keyHash P (Str.ofString "int"), .str (Str.ofString "int") 67, .type "int"⟩ :: ⟨PyData.keyHash P (Str.ofString "list"), .str (Str.ofString "list") 68, .type "list"⟩ :: ⟨PyData.keyHash P (Str.ofString "map"), .str (Str.ofString "map") 69, .type "map"⟩ :: ⟨PyData.keyHash P (Str.ofString "object"), .str (Str.ofString "object") 70, .type "object"⟩ :: ⟨PyData.keyHash P (Str.ofString "range"), .str (Str.ofString "range") 71, .type "range"⟩ :: ⟨PyData.keyHash P (Str.ofString "reversed"), .str (Str.ofString "reversed") 72, .type "reversed"⟩ :: ⟨PyData.keyHash P (Str.ofString "set"), .str (Str.ofString "set") 73, .type "set"⟩ :: ⟨PyData.keyHash P (Str.ofString "slice"), .str (Str.ofString "slice") 74, .type "slice"⟩ :: ⟨PyData.keyHash P (Str.ofString "staticmethod"), .str (Str.ofString "staticmethod") 75, .type "staticmethod"⟩ :: ⟨PyData.keyHash P (Str.ofString "str"), .str (Str.ofString "str") 76, .type "str"⟩ :: ⟨PyData.keyHash P (Str.ofString "super"), .str (Str.ofString "super") 77, .type "super"⟩ :: ⟨PyData.keyHash P (Str.ofString "tuple"), .str (Str.ofString "tuple") 78, .type "tuple"⟩ :: ⟨PyData.keyHash P (Str.ofString "type"), .str (Str.ofString "type") 79, .type "type"⟩ :: ⟨PyData.keyHash P (Str.ofString "zip"), .str (Str.ofString "zip") 80, .type "zip"⟩ :: ⟨PyData.keyHash P (Str.ofString "__debug__"), .str (Str.ofString "__debug__") 81, .bool true⟩ :: ⟨PyData.keyHash P (Str.ofString "BaseException"), .str (Str.ofString "BaseException") 82, .type "BaseException"⟩ :: ⟨PyData.keyHash P (Str.ofString "BaseExceptionGroup"), .str (Str.ofString "BaseExceptionGroup") 83, .type "BaseExceptionGroup"⟩ :: ⟨PyData.keyHash P (Str.ofString "Exception"), .str (Str.ofString "Exception") 84, .type "Exception"⟩ :: ⟨PyData.keyHash P (Str.ofString "GeneratorExit"), .str (Str.ofString "GeneratorExit") 85, .type "GeneratorExit"⟩ :: ⟨PyData.keyHash P (Str.ofString "KeyboardInterrupt"), .str (Str.ofString "KeyboardInterrupt") 86, .type "KeyboardInterrupt"⟩ :: ⟨PyData.keyHash P (Str.ofString "SystemExit"), .str (Str.ofString "SystemExit") 87, .type "SystemExit"⟩ :: ⟨PyData.keyHash P (Str.ofString "ArithmeticError"), .str (Str.ofString "ArithmeticError") 88, .type "ArithmeticError"⟩ :: ⟨PyData.keyHash P (Str.ofString "AssertionError"), .str (Str.ofString "AssertionError") 89, .type "AssertionError"⟩ :: ⟨PyData.keyHash P (Str.ofString "AttributeError"), .str (Str.ofString "AttributeError") 90, .type "AttributeError"⟩ :: ⟨PyData.keyHash P (Str.ofString "BufferError"), .str (Str.ofString "BufferError") 91, .type "BufferError"⟩ :: ⟨PyData.keyHash P (Str.ofString "EOFError"), .str (Str.ofString "EOFError") 92, .type "EOFError"⟩ :: ⟨PyData.keyHash P (Str.ofString "ImportError"), .str (Str.ofString "ImportError") 93, .type "ImportError"⟩ :: ⟨PyData.keyHash P (Str.ofString "LookupError"), .str (Str.ofString "LookupError") 94, .type "LookupError"⟩ :: ⟨PyData.keyHash P (Str.ofString "MemoryError"), .str (Str.ofString "MemoryError") 95, .type "MemoryError"⟩ :: ⟨PyData.keyHash P (Str.ofString "NameError"), .str (Str.ofString "NameError") 96, .type "NameError"⟩ :: ⟨PyData.keyHash P (Str.ofString "OSError"), .str (Str.ofString "OSError") 97, .type "OSError"⟩ :: ⟨PyData.keyHash P (Str.ofString "ReferenceError"), .str (Str.ofString "ReferenceError") 98, .type "ReferenceError"⟩ :: ⟨PyData.keyHash P (Str.ofString "RuntimeError"), .str (Str.ofString "RuntimeError") 99, .type "RuntimeError"⟩ :: ⟨PyData.keyHash P (Str.ofString "StopAsyncIteration"), .str (Str.ofString "StopAsyncIteration") 100, .type "StopAsyncIteration"⟩ :: ⟨PyData.keyHash P (Str.ofString "StopIteration"), .str (Str.ofString "StopIteration") 101, .type "StopIteration"⟩ :: ⟨PyData.keyHash P (Str.ofString "SyntaxError"), .str (Str.ofString "SyntaxError") 102, .type "SyntaxError"⟩ :: ⟨PyData.keyHash P (Str.ofString "SystemError"), .str (Str.ofString "SystemError") 103, .type "SystemError"⟩ :: ⟨PyData.keyHash P (Str.ofString "TypeError"), .str (Str.ofString "TypeError") 104, .type "TypeError"⟩ :: ⟨PyData.keyHash P (Str.ofString "ValueError"), .str (Str.ofString "ValueError") 105, .type "ValueError"⟩ :: ⟨PyData.keyHash P (Str.ofString "Warning"), .str (Str.ofString "Warning") 106, .type "Warning"⟩ :: ⟨PyData.keyHash P (Str.ofString "FloatingPointError"), .str (Str.ofString "FloatingPointError") 107, .type "FloatingPointError"⟩ :: ⟨PyData.keyHash P (Str.ofString "OverflowError"), .str (Str.ofString "OverflowError") 108, .type "OverflowError"⟩ :: ⟨PyData.keyHash P (Str.ofString "ZeroDivisionError"), .str (Str.ofString "ZeroDivisionError") 109, .type "ZeroDivisionError"⟩ :: ⟨PyData.keyHash P (Str.ofString "BytesWarning"), .str (Str.ofString "BytesWarning") 110, .type "BytesWarning"⟩ :: ⟨PyData.keyHash P (Str.ofString "DeprecationWarning"), .str (Str.ofString "DeprecationWarning") 111, .type "DeprecationWarning"⟩ :: ⟨PyData.keyHash P (Str.ofString "EncodingWarning"), .str (Str.ofString "EncodingWarning") 112, .type "EncodingWarning"⟩ :: ⟨PyData.keyHash P (Str.ofString "FutureWarning"), .str (Str.ofString "FutureWarning") 113, .type "FutureWarning"⟩ :: ⟨PyData.keyHash P (Str.ofString "ImportWarning"), .str (Str.ofString "ImportWarning") 114, .type "ImportWarning"⟩ :: ⟨PyData.keyHash P (Str.ofString "PendingDeprecationWarning"), .str (Str.ofString "PendingDeprecationWarning") 115, .type "PendingDeprecationWarning"⟩ :: ⟨PyData.keyHash P (Str.ofString "ResourceWarning"), .str (Str.ofString "ResourceWarning") 116, .type "ResourceWarning"⟩ :: ⟨PyData.keyHash P (Str.ofString "RuntimeWarning"), .str (Str.ofString "RuntimeWarning") 117, .type "RuntimeWarning"⟩ :: ⟨PyData.keyHash P (Str.ofString "SyntaxWarning"), .str (Str.ofString "SyntaxWarning") 118, .type "SyntaxWarning"⟩ :: ⟨PyData.keyHash P (Str.ofString "UnicodeWarning"), .str (Str.ofString "UnicodeWarning") 119, .type "UnicodeWarning"⟩ :: ⟨PyData.keyHash P (Str.ofString "UserWarning"), .str (Str.ofString "UserWarning") 120, .type "UserWarning"⟩ :: ⟨PyData.keyHash P (Str.ofString "BlockingIOError"), .str (Str.ofString "BlockingIOError") 121, .type "BlockingIOError"⟩ :: ⟨PyData.keyHash P (Str.ofString "ChildProcessError"), .str (Str.ofString "ChildProcessError") 122, .type "ChildProcessError"⟩ :: ⟨PyData.keyHash P (Str.ofString "ConnectionError"), .str (Str.ofString "ConnectionError") 123, .type "ConnectionError"⟩ :: ⟨PyData.keyHash P (Str.ofString "FileExistsError"), .str (Str.ofString "FileExistsError") 124, .type "FileExistsError"⟩ :: ⟨PyData.keyHash P (Str.ofString "FileNotFoundError"), .str (Str.ofString "FileNotFoundError") 125, .type "FileNotFoundError"⟩ :: ⟨PyData.keyHash P (Str.ofString "InterruptedError"), .str (Str.ofString "InterruptedError") 126, .type "InterruptedError"⟩ :: ⟨PyData.keyHash P (Str.ofString "IsADirectoryError"), .str (Str.ofString "IsADirectoryError") 127, .type "IsADirectoryError"⟩ :: ⟨PyData.keyHash P (Str.ofString "NotADirectoryError"), .str (Str.ofString "NotADirectoryError") 128, .type "NotADirectoryError"⟩ :: ⟨PyData.keyHash P (Str.ofString "PermissionError"), .str (Str.ofString "PermissionError") 129, .type "PermissionError"⟩ :: ⟨PyData.keyHash P (Str.ofString "ProcessLookupError"), .str (Str.ofString "ProcessLookupError") 130, .type "ProcessLookupError"⟩ :: ⟨PyData.keyHash P (Str.ofString "TimeoutError"), .str (Str.ofString "TimeoutError") 131, .type "TimeoutError"⟩ :: ⟨PyData.keyHash P (Str.ofString "IndentationError"), .str (Str.ofString "IndentationError") 132, .type "IndentationError"⟩ :: ⟨PyData.keyHash P (Str.ofString "_IncompleteInputError"), .str (Str.ofString "_IncompleteInputError") 133, .type "_IncompleteInputError"⟩ :: ⟨PyData.keyHash P (Str.ofString "IndexError"), .str (Str.ofString "IndexError") 134, .type "IndexError"⟩ :: ⟨PyData.keyHash P (Str.ofString "KeyError"), .str (Str.ofString "KeyError") 135, .type "KeyError"⟩ :: ⟨PyData.keyHash P (Str.ofString "ModuleNotFoundError"), .str (Str.ofString "ModuleNotFoundError") 136, .type "ModuleNotFoundError"⟩ :: ⟨PyData.keyHash P (Str.ofString "NotImplementedError"), .str (Str.ofString "NotImplementedError") 137, .type "NotImplementedError"⟩ :: ⟨PyData.keyHash P (Str.ofString "PythonFinalizationError"), .str (Str.ofString "PythonFinalizationError") 138, .type "PythonFinalizationError"⟩ :: ⟨PyData.keyHash P (Str.ofString "RecursionError"), .str (Str.ofString "RecursionError") 139, .type "RecursionError"⟩ :: ⟨PyData.keyHash P (Str.ofString "UnboundLocalError"), .str (Str.ofString "UnboundLocalError") 140, .type "UnboundLocalError"⟩ :: ⟨PyData.keyHash P (Str.ofString "UnicodeError"), .str (Str.ofString "UnicodeError") 141, .type "UnicodeError"⟩ :: ⟨PyData.keyHash P (Str.ofString "BrokenPipeError"), .str (Str.ofString "BrokenPipeError") 142, .type "BrokenPipeError"⟩ :: ⟨PyData.keyHash P (Str.ofString "ConnectionAbortedError"), .str (Str.ofString "ConnectionAbortedError") 143, .type "ConnectionAbortedError"⟩ :: ⟨PyData.keyHash P (Str.ofString "ConnectionRefusedError"), .str (Str.ofString "ConnectionRefusedError") 144, .type "ConnectionRefusedError"⟩ :: ⟨PyData.keyHash P (Str.ofString "ConnectionResetError"), .str (Str.ofString "ConnectionResetError") 145, .type "ConnectionResetError"⟩ :: ⟨PyData.keyHash P (Str.ofString "TabError"), .str (Str.ofString "TabError") 146, .type "TabError"⟩ :: ⟨PyData.keyHash P (Str.ofString "UnicodeDecodeError"), .str (Str.ofString "UnicodeDecodeError") 147, .type "UnicodeDecodeError"⟩ :: ⟨PyData.keyHash P (Str.ofString "UnicodeEncodeError"), .str (Str.ofString "UnicodeEncodeError") 148, .type "UnicodeEncodeError"⟩ :: ⟨PyData.keyHash P (Str.ofString "UnicodeTranslateError"), .str (Str.ofString "UnicodeTranslateError") 149, .type "UnicodeTranslateError"⟩ :: ⟨PyData.keyHash P (Str.ofString "ExceptionGroup"), .str (Str.ofString "ExceptionGroup") 150, .type "ExceptionGroup"⟩ :: ⟨PyData.keyHash P (Str.ofString "EnvironmentError"), .str (Str.ofString "EnvironmentError") 151, .type "OSError"⟩ :: ⟨PyData.keyHash P (Str.ofString "IOError"), .str (Str.ofString "IOError") 152, .type "OSError"⟩ :: ⟨PyData.keyHash P (Str.ofString "open"), .str (Str.ofString "open") 153, .builtin "open"⟩ :: ⟨PyData.keyHash P (Str.ofString "quit"), .str (Str.ofString "quit") 154, .builtin "builtins.quit#opaque"⟩ :: ⟨PyData.keyHash P (Str.ofString "exit"), .str (Str.ofString "exit") 155, .builtin "builtins.exit#opaque"⟩ :: ⟨PyData.keyHash P (Str.ofString "copyright"), .str (Str.ofString "copyright") 156, .builtin "builtins.copyright#opaque"⟩ :: ⟨PyData.keyHash P (Str.ofString "credits"), .str (Str.ofString "credits") 157, .builtin "builtins.credits#opaque"⟩ :: ⟨PyData.keyHash P (Str.ofString "license"), .str (Str.ofString "license") 158, .builtin "builtins.license#opaque"⟩ :: ⟨PyData.keyHash P (Str.ofString "help"), .str (Str.ofString "help") 159, .builtin "builtins.help#opaque"⟩ :: [])) 159, #[]⟩
noncomputable def ob_1 (P : Params) : Obj := ⟨.type "dict", none, .dict #[⟨PyData.keyHash P (Str.ofString "builtins"), .str (Str.ofString "builtins") 162, .ref 4⟩, ⟨PyData.keyHash P (Str.ofString "__main__"), .str (Str.ofString "__main__") 163, .ref 5⟩, ⟨PyData.keyHash P (Str.ofString "_sre"), .str (Str.ofString "_sre") 244, .ref 12⟩] 3, #[]⟩
noncomputable def ob_2 (P : Params) : Obj := ⟨.none, none, .dict #[⟨PyData.keyHash P (Str.ofString "\x69mport.loaded._sre"), .str (Str.ofString "\x69mport.loaded._sre") 183, .bool true⟩, ⟨PyData.keyHash P (Str.ofString "class._frozen_importlib.BuiltinImporter"), .str (Str.ofString "class._frozen_importlib.BuiltinImporter") 185, .ref 14⟩, ⟨PyData.keyHash P (Str.ofString "watched.\x69mport"), .str (Str.ofString "watched.\x69mport") 206, .ref 18⟩, ⟨PyData.keyHash P (Str.ofString "class._frozen_importlib.ModuleSpec"), .str (Str.ofString "class._frozen_importlib.ModuleSpec") 216, .ref 22⟩, ⟨PyData.keyHash P (Str.ofString "sys.modules.booked-epoch"), .str (Str.ofString "sys.modules.booked-epoch") 245, .int 3 0⟩, ⟨PyData.keyHash P (Str.ofString "\x69mport.later-laid._sre"), .str (Str.ofString "\x69mport.later-laid._sre") 270, .bool true⟩, ⟨PyData.keyHash P (Str.ofString "watched.library"), .str (Str.ofString "watched.library") 272, .ref 27⟩, ⟨PyData.keyHash P (Str.ofString "watched.library-objects"), .str (Str.ofString "watched.library-objects") 0, .str (Str.ofString "\x0c") 0⟩, ⟨PyData.keyHash P (Str.ofString "watched.library-deep._sre"), .str (Str.ofString "watched.library-deep._sre") 273, .str (Str.ofString "\x04\x00\x00\x0b\x04\x00\x00\x0b\x04\x00\x00\x03\x04\x00\x00\x0b\x08\x04dict\x02") 0⟩] 9, #[]⟩
noncomputable def ob_3 (P : Params) : Obj := ⟨.type "dict", none, .dict #[⟨PyData.keyHash P (Str.ofString "__name__"), .str (Str.ofString "__name__") 165, .str (Str.ofString "law_rt0056_01") 2253⟩, ⟨PyData.keyHash P (Str.ofString "__doc__"), .str (Str.ofString "__doc__") 166, .none⟩, ⟨PyData.keyHash P (Str.ofString "__package__"), .str (Str.ofString "__package__") 167, .none⟩, ⟨PyData.keyHash P (Str.ofString "__loader__"), .str (Str.ofString "__loader__") 168, .builtin "__main__.__loader__#opaque"⟩, ⟨PyData.keyHash P (Str.ofString "__spec__"), .str (Str.ofString "__spec__") 169, .none⟩, ⟨PyData.keyHash P (Str.ofString "__annotations__"), .str (Str.ofString "__annotations__") 170, .ref 6⟩, ⟨PyData.keyHash P (Str.ofString "__builtins__"), .str (Str.ofString "__builtins__") 171, .ref 4⟩, ⟨PyData.keyHash P (Str.ofString "__file__"), .str (Str.ofString "__file__") 173, .str (Str.ofString "/claim/cut.py") 172⟩, ⟨PyData.keyHash P (Str.ofString "__cached__"), .str (Str.ofString "__cached__") 174, .none⟩, ⟨PyData.keyHash P (Str.ofString "_sre"), .str (Str.ofString "_sre") 275, .ref 12⟩, ⟨PyData.keyHash P (Str.ofString "_wall"), .str (Str.ofString "_wall") 288, .ref 38⟩, ⟨PyData.keyHash P (Str.ofString "CRLF"), .str (Str.ofString "CRLF") 290, .str (Str.ofString "\x0d\n") 289⟩, ⟨PyData.keyHash P (Str.ofString "NL"), .str (Str.ofString "NL") 292, .str (Str.ofString "\n") 291⟩, ⟨PyData.keyHash P (Str.ofString "_QUOPRI_MAP"), .str (Str.ofString "_QUOPRI_MAP") 1320, .ref 41⟩, ⟨PyData.keyHash P (Str.ofString "_QUOPRI_HEADER_MAP"), .str (Str.ofString "_QUOPRI_HEADER_MAP") 1321, .ref 46⟩, ⟨PyData.keyHash P (Str.ofString "_QUOPRI_BODY_MAP"), .str (Str.ofString "_QUOPRI_BODY_MAP") 1322, .ref 48⟩, ⟨PyData.keyHash P (Str.ofString "ascii_lowercase"), .str (Str.ofString "ascii_lowercase") 1324, .str (Str.ofString "abcdefghijklmnopqrstuvwxyz") 1323⟩, ⟨PyData.keyHash P (Str.ofString "ascii_uppercase"), .str (Str.ofString "ascii_uppercase") 1326, .str (Str.ofString "ABCDEFGHIJKLMNOPQRSTUVWXYZ") 1325⟩, ⟨PyData.keyHash P (Str.ofString "ascii_letters"), .str (Str.ofString "ascii_letters") 1328, .str (Str.ofString "abcdefghijklmnopqrstuvwxyzABCDEFGHIJKLMNOPQRSTUVWXYZ") 1327⟩, ⟨PyData.keyHash P (Str.ofString "digits"), .str (Str.ofString "digits") 1330, .str (Str.ofString "0123456789") 1329⟩, ⟨PyData.keyHash P (Str.ofString "hexdigits"), .str (Str.ofString "hexdigits") 1335, .str (Str.ofString "0123456789abcdefABCDEF") 1334⟩, ⟨PyData.keyHash P (Str.ofString "unquote"), .str (Str.ofString "unquote") 1841, .ref 61⟩, ⟨PyData.keyHash P (Str.ofString "quote"), .str (Str.ofString "quote") 1848, .ref 68⟩, ⟨PyData.keyHash P (Str.ofString "_QUOPRI_BODY_ENCODE_MAP"), .str (Str.ofString "_QUOPRI_BODY_ENCODE_MAP") 1849, .ref 70⟩, ⟨PyData.keyHash P (Str.ofString "body_encode"), .str (Str.ofString "body_encode") 1876, .ref 81⟩, ⟨PyData.keyHash P (Str.ofString "decode"), .str (Str.ofString "decode") 1889, .ref 89⟩, ⟨PyData.keyHash P (Str.ofString "_twin_re_1"), .str (Str.ofString "_twin_re_1") 1929, .ref 94⟩, ⟨PyData.keyHash P (Str.ofString "translate"), .str (Str.ofString "translate") 1938, .ref 101⟩, ⟨PyData.keyHash P (Str.ofString "_special_chars_map"), .str (Str.ofString "_special_chars_map") 2086, .ref 103⟩, ⟨PyData.keyHash P (Str.ofString "escape"), .str (Str.ofString "escape") 2093, .ref 113⟩, ⟨PyData.keyHash P (Str.ofString "_translate"), .str (Str.ofString "_translate") 2114, .ref 120⟩, ⟨PyData.keyHash P (Str.ofString "_join_translated_parts"), .str (Str.ofString "_join_translated_parts") 2127, .ref 127⟩, ⟨PyData.keyHash P (Str.ofString "_plain_name"), .str (Str.ofString "_plain_name") 2138, .ref 134⟩, ⟨PyData.keyHash P (Str.ofString "ABCMeta"), .str (Str.ofString "ABCMeta") 2164, .ref 151⟩, ⟨PyData.keyHash P (Str.ofString "_ABCLike"), .str (Str.ofString "_ABCLike") 2207, .ref 184⟩, ⟨PyData.keyHash P (Str.ofString "_abc_plain_meta"), .str (Str.ofString "_abc_plain_meta") 2214, .ref 193⟩, ⟨PyData.keyHash P (Str.ofString "fspath"), .str (Str.ofString "fspath") 2226, .ref 200⟩, ⟨PyData.keyHash P (Str.ofString "splitroot"), .str (Str.ofString "splitroot") 2237, .ref 207⟩, ⟨PyData.keyHash P (Str.ofString "normpath"), .str (Str.ofString "normpath") 2252, .ref 214⟩, ⟨PyData.keyHash P (Str.ofString "_law_takes"), .str (Str.ofString "_law_takes") 2268, .ref 221⟩, ⟨PyData.keyHash P (Str.ofString "_law_divided"), .str (Str.ofString "_law_divided") 2274, .ref 226⟩, ⟨PyData.keyHash P (Str.ofString "law"), .str (Str.ofString "law") 2280, .ref 231⟩] 44, #[]⟩
noncomputable def ob_4 (P : Params) : Obj := ⟨.type "module", (some 0), .plain, #[]⟩
noncomputable def ob_5 (P : Params) : Obj := ⟨.type "module", (some 3), .plain, #[]⟩
noncomputable def ob_6 (P : Params) : Obj := ⟨.type "dict", none, .dict #[] 0, #[]⟩
noncomputable def ob_7 (P : Params) : Obj := ⟨.type "tuple", none, .seq #[] 0, #[]⟩
noncomputable def ob_8 (P : Params) : Obj := ⟨.none, none, .fields #[], #[]⟩
noncomputable def ob_9 (P : Params) : Obj := ⟨.type "code", none, .fields #[.str (Str.ofString "<module>") 176, .str (Str.ofString "<module>") 177, .str (Str.ofString "/claim/cut.py") 178, .int 1 0, .int 0 0, .int 0 0, .int 0 0, .int 0 0, .ref 7, .bool false, .int 175 0, .ref 8, .none, .none, .none, .none, .int 179 0, .int 1 0, .str (Str.ofString "/claim/cut.py") 180], #[]⟩
noncomputable def ob_10 (P : Params) : Obj := ⟨.type "frame", none, .plain, #[(some (.ref 9)), (some (.ref 3)), (some (.ref 3)), none, (some (.str (Str.ofString "__main__") 164)), none, (some (.ref 0))]⟩
noncomputable def ob_11 (P : Params) : Obj := ⟨.type "dict", none, .dict #[⟨PyData.keyHash P (Str.ofString "__name__"), .str (Str.ofString "__name__") 247, .str (Str.ofString "_sre") 246⟩, ⟨PyData.keyHash P (Str.ofString "__doc__"), .str (Str.ofString "__doc__") 248, .none⟩, ⟨PyData.keyHash P (Str.ofString "__package__"), .str (Str.ofString "__package__") 250, .str (Str.ofString "") 249⟩, ⟨PyData.keyHash P (Str.ofString "__loader__"), .str (Str.ofString "__loader__") 251, .builtin "off-the-table:_sre.__loader__:shared#opaque"⟩, ⟨PyData.keyHash P (Str.ofString "__spec__"), .str (Str.ofString "__spec__") 252, .builtin "off-the-table:_sre.__spec__:shared#opaque"⟩, ⟨PyData.keyHash P (Str.ofString "compile"), .str (Str.ofString "compile") 253, .builtin "_sre.compile"⟩, ⟨PyData.keyHash P (Str.ofString "template"), .str (Str.ofString "template") 254, .builtin "off-the-table:_sre.template:shared#opaque"⟩, ⟨PyData.keyHash P (Str.ofString "getcodesize"), .str (Str.ofString "getcodesize") 255, .builtin "off-the-table:_sre.getcodesize:shared#opaque"⟩, ⟨PyData.keyHash P (Str.ofString "ascii_iscased"), .str (Str.ofString "ascii_iscased") 256, .builtin "off-the-table:_sre.ascii_iscased:shared#opaque"⟩, ⟨PyData.keyHash P (Str.ofString "unicode_iscased"), .str (Str.ofString "unicode_iscased") 257, .builtin "off-the-table:_sre.unicode_iscased:shared#opaque"⟩, ⟨PyData.keyHash P (Str.ofString "ascii_tolower"), .str (Str.ofString "ascii_tolower") 258, .builtin "off-the-table:_sre.ascii_tolower:shared#opaque"⟩, ⟨PyData.keyHash P (Str.ofString "unicode_tolower"), .str (Str.ofString "unicode_tolower") 259, .builtin "off-the-table:_sre.unicode_tolower:shared#opaque"⟩, ⟨PyData.keyHash P (Str.ofString "MAGIC"), .str (Str.ofString "MAGIC") 261, .int 20230612 260⟩, ⟨PyData.keyHash P (Str.ofString "CODESIZE"), .str (Str.ofString "CODESIZE") 263, .int 4 262⟩, ⟨PyData.keyHash P (Str.ofString "MAXREPEAT"), .str (Str.ofString "MAXREPEAT") 265, .int 4294967295 264⟩, ⟨PyData.keyHash P (Str.ofString "MAXGROUPS"), .str (Str.ofString "MAXGROUPS") 267, .int 1073741823 266⟩, ⟨PyData.keyHash P (Str.ofString "copyright"), .str (Str.ofString "copyright") 269, .str (Str.ofString " SRE 2.2.2 Copyright (c) 1997-2002 by Secret Labs AB ") 268⟩] 17, #[]⟩
noncomputable def ob_12 (P : Params) : Obj := ⟨.type "module", (some 11), .plain, #[]⟩
noncomputable def ob_13 (P : Params) : Obj := ⟨.type "dict", none, .dict #[⟨PyData.keyHash P (Str.ofString "__module__"), .str (Str.ofString "__module__") 189, .str (Str.ofString "_frozen_importlib") 186⟩, ⟨PyData.keyHash P (Str.ofString "__firstlineno__"), .str (Str.ofString "__firstlineno__") 190, .int 971 187⟩, ⟨PyData.keyHash P (Str.ofString "__doc__"), .str (Str.ofString "__doc__") 191, .builtin "_frozen_importlib.BuiltinImporter.__doc__:str#opaque"⟩, ⟨PyData.keyHash P (Str.ofString "_ORIGIN"), .str (Str.ofString "_ORIGIN") 192, .str (Str.ofString "built-in") 188⟩, ⟨PyData.keyHash P (Str.ofString "find_spec"), .str (Str.ofString "find_spec") 193, .builtin "_frozen_importlib.BuiltinImporter.find_spec#opaque"⟩, ⟨PyData.keyHash P (Str.ofString "create_module"), .str (Str.ofString "create_module") 194, .builtin "_frozen_importlib.BuiltinImporter.create_module#opaque"⟩, ⟨PyData.keyHash P (Str.ofString "exec_module"), .str (Str.ofString "exec_module") 195, .builtin "_frozen_importlib.BuiltinImporter.exec_module#opaque"⟩, ⟨PyData.keyHash P (Str.ofString "get_code"), .str (Str.ofString "get_code") 196, .builtin "_frozen_importlib.BuiltinImporter.get_code#opaque"⟩, ⟨PyData.keyHash P (Str.ofString "get_source"), .str (Str.ofString "get_source") 197, .builtin "_frozen_importlib.BuiltinImporter.get_source#opaque"⟩, ⟨PyData.keyHash P (Str.ofString "is_package"), .str (Str.ofString "is_package") 198, .builtin "_frozen_importlib.BuiltinImporter.is_package#opaque"⟩, ⟨PyData.keyHash P (Str.ofString "load_module"), .str (Str.ofString "load_module") 199, .builtin "_frozen_importlib.BuiltinImporter.load_module#opaque"⟩, ⟨PyData.keyHash P (Str.ofString "__static_attributes__"), .str (Str.ofString "__static_attributes__") 200, .ref 15⟩, ⟨PyData.keyHash P (Str.ofString "__dict__"), .str (Str.ofString "__dict__") 202, .ref 16⟩, ⟨PyData.keyHash P (Str.ofString "__weakref__"), .str (Str.ofString "__weakref__") 204, .ref 17⟩] 14, #[]⟩
noncomputable def ob_14 (P : Params) : Obj := ⟨.type "type", none, .cls { name := Str.ofString "BuiltinImporter", bases := [.type "object"], mro := [.ref 14, .type "object"], ns := 13, qualname := Str.ofString "BuiltinImporter", hasDict := true, slotNames := [], subclasses := [], abstract := false, collection := none, hasDel := false }, #[]⟩
noncomputable def ob_15 (P : Params) : Obj := ⟨.type "tuple", none, .seq #[] 0, #[]⟩
noncomputable def ob_16 (P : Params) : Obj := ⟨.type "getset_descriptor", none, .fields #[.str (Str.ofString "__dict__") 201, .ref 14, .builtin "function.__dict__", .builtin "function.__dict__#set"], #[]⟩
noncomputable def ob_17 (P : Params) : Obj := ⟨.type "getset_descriptor", none, .fields #[.str (Str.ofString "__weakref__") 203, .ref 14, .builtin "ExceptionGroup.__weakref__", .none], #[]⟩
noncomputable def ob_18 (P : Params) : Obj := ⟨.none, none, .seq #[.int 13 0, .str (Str.mk #[6, 189, 10, 95, 95, 109, 111, 100, 117, 108, 101, 95, 95, 6, 186, 17, 95, 102, 114, 111, 122, 101, 110, 95, 105, 109, 112, 111, 114, 116, 108, 105, 98, 6, 190, 15, 95, 95, 102, 105, 114, 115, 116, 108, 105, 110, 101, 110, 111, 95, 95, 4, 187, 0, 971, 6, 191, 7, 95, 95, 100, 111, 99, 95, 95, 9, 52, 95, 102, 114, 111, 122, 101, 110, 95, 105, 109, 112, 111, 114, 116, 108, 105, 98, 46, 66, 117, 105, 108, 116, 105, 110, 73, 109, 112, 111, 114, 116, 101, 114, 46, 95, 95, 100, 111, 99, 95, 95, 58, 115, 116, 114, 35, 111, 112, 97, 113, 117, 101, 6, 192, 7, 95, 79, 82, 73, 71, 73, 78, 6, 188, 8, 98, 117, 105, 108, 116, 45, 105, 110, 6, 193, 9, 102, 105, 110, 100, 95, 115, 112, 101, 99, 9, 50, 95, 102, 114, 111, 122, 101, 110, 95, 105, 109, 112, 111, 114, 116, 108, 105, 98, 46, 66, 117, 105, 108, 116, 105, 110, 73, 109, 112, 111, 114, 116, 101, 114, 46, 102, 105, 110, 100, 95, 115, 112, 101, 99, 35, 111, 112, 97, 113, 117, 101, 6, 194, 13, 99, 114, 101, 97, 116, 101, 95, 109, 111, 100, 117, 108, 101, 9, 54, 95, 102, 114, 111, 122, 101, 110, 95, 105, 109, 112, 111, 114, 116, 108, 105, 98, 46, 66, 117, 105, 108, 116, 105, 110, 73, 109, 112, 111, 114, 116, 101, 114, 46, 99, 114, 101, 97, 116, 101, 95, 109, 111, 100, 117, 108, 101, 35, 111, 112, 97, 113, 117, 101, 6, 195, 11, 101, 120, 101, 99, 95, 109, 111, 100, 117, 108, 101, 9, 52, 95, 102, 114, 111, 122, 101, 110, 95, 105, 109, 112, 111, 114, 116, 108, 105, 98, 46, 66, 117, 105, 108, 116, 105, 110, 73, 109, 112, 111, 114, 116, 101, 114, 46, 101, 120, 101, 99, 95, 109, 111, 100, 117, 108, 101, 35, 111, 112, 97, 113, 117, 101, 6, 196, 8, 103, 101, 116, 95, 99, 111, 100, 101, 9, 49, 95, 102, 114, 111, 122, 101, 110, 95, 105, 109, 112, 111, 114, 116, 108, 105, 98, 46, 66, 117, 105, 108, 116, 105, 110, 73, 109, 112, 111, 114, 116, 101, 114, 46, 103, 101, 116, 95, 99, 111, 100, 101, 35, 111, 112, 97, 113, 117, 101, 6, 197, 10, 103, 101, 116, 95, 115, 111, 117, 114, 99, 101, 9, 51, 95, 102, 114, 111, 122, 101, 110, 95, 105, 109, 112, 111, 114, 116, 108, 105, 98, 46, 66, 117, 105, 108, 116, 105, 110, 73, 109, 112, 111, 114, 116, 101, 114, 46, 103, 101, 116, 95, 115, 111, 117, 114, 99, 101, 35, 111, 112, 97, 113, 117, 101, 6, 198, 10, 105, 115, 95, 112, 97, 99, 107, 97, 103, 101, 9, 51, 95, 102, 114, 111, 122, 101, 110, 95, 105, 109, 112, 111, 114, 116, 108, 105, 98, 46, 66, 117, 105, 108, 116, 105, 110, 73, 109, 112, 111, 114, 116, 101, 114, 46, 105, 115, 95, 112, 97, 99, 107, 97, 103, 101, 35, 111, 112, 97, 113, 117, 101, 6, 199, 11, 108, 111, 97, 100, 95, 109, 111, 100, 117, 108, 101, 9, 52, 95, 102, 114, 111, 122, 101, 110, 95, 105, 109, 112, 111, 114, 116, 108, 105, 98, 46, 66, 117, 105, 108, 116, 105, 110, 73, 109, 112, 111, 114, 116, 101, 114, 46, 108, 111, 97, 100, 95, 109, 111, 100, 117, 108, 101, 35, 111, 112, 97, 113, 117, 101, 6, 200, 21, 95, 95, 115, 116, 97, 116, 105, 99, 95, 97, 116, 116, 114, 105, 98, 117, 116, 101, 115, 95, 95, 4, 0, 0, 15, 6, 202, 8, 95, 95, 100, 105, 99, 116, 95, 95, 4, 0, 0, 16, 6, 204, 11, 95, 95, 119, 101, 97, 107, 114, 101, 102, 95, 95, 4, 0, 0, 17]) 0, .bool true, .bool true, .str (Str.ofString "") 205, .int 21 0, .str (Str.mk #[6, 227, 10, 95, 95, 109, 111, 100, 117, 108, 101, 95, 95, 6, 217, 17, 95, 102, 114, 111, 122, 101, 110, 95, 105, 109, 112, 111, 114, 116, 108, 105, 98, 6, 228, 15, 95, 95, 102, 105, 114, 115, 116, 108, 105, 110, 101, 110, 111, 95, 95, 4, 218, 0, 562, 6, 229, 7, 95, 95, 100, 111, 99, 95, 95, 9, 47, 95, 102, 114, 111, 122, 101, 110, 95, 105, 109, 112, 111, 114, 116, 108, 105, 98, 46, 77, 111, 100, 117, 108, 101, 83, 112, 101, 99, 46, 95, 95, 100, 111, 99, 95, 95, 58, 115, 116, 114, 35, 111, 112, 97, 113, 117, 101, 6, 230, 8, 95, 95, 105, 110, 105, 116, 95, 95, 9, 44, 95, 102, 114, 111, 122, 101, 110, 95, 105, 109, 112, 111, 114, 116, 108, 105, 98, 46, 77, 111, 100, 117, 108, 101, 83, 112, 101, 99, 46, 95, 95, 105, 110, 105, 116, 95, 95, 35, 111, 112, 97, 113, 117, 101, 6, 231, 8, 95, 95, 114, 101, 112, 114, 95, 95, 9, 44, 95, 102, 114, 111, 122, 101, 110, 95, 105, 109, 112, 111, 114, 116, 108, 105, 98, 46, 77, 111, 100, 117, 108, 101, 83, 112, 101, 99, 46, 95, 95, 114, 101, 112, 114, 95, 95, 35, 111, 112, 97, 113, 117, 101, 6, 232, 6, 95, 95, 101, 113, 95, 95, 9, 42, 95, 102, 114, 111, 122, 101, 110, 95, 105, 109, 112, 111, 114, 116, 108, 105, 98, 46, 77, 111, 100, 117, 108, 101, 83, 112, 101, 99, 46, 95, 95, 101, 113, 95, 95, 35, 111, 112, 97, 113, 117, 101, 6, 233, 6, 99, 97, 99, 104, 101, 100, 9, 42, 95, 102, 114, 111, 122, 101, 110, 95, 105, 109, 112, 111, 114, 116, 108, 105, 98, 46, 77, 111, 100, 117, 108, 101, 83, 112, 101, 99, 46, 99, 97, 99, 104, 101, 100, 35, 111, 112, 97, 113, 117, 101, 6, 234, 6, 112, 97, 114, 101, 110, 116, 9, 42, 95, 102, 114, 111, 122, 101, 110, 95, 105, 109, 112, 111, 114, 116, 108, 105, 98, 46, 77, 111, 100, 117, 108, 101, 83, 112, 101, 99, 46, 112, 97, 114, 101, 110, 116, 35, 111, 112, 97, 113, 117, 101, 6, 235, 12, 104, 97, 115, 95, 108, 111, 99, 97, 116, 105, 111, 110, 9, 48, 95, 102, 114, 111, 122, 101, 110, 95, 105, 109, 112, 111, 114, 116, 108, 105, 98, 46, 77, 111, 100, 117, 108, 101, 83, 112, 101, 99, 46, 104, 97, 115, 95, 108, 111, 99, 97, 116, 105, 111, 110, 35, 111, 112, 97, 113, 117, 101, 6, 236, 21, 95, 95, 115, 116, 97, 116, 105, 99, 95, 97, 116, 116, 114, 105, 98, 117, 116, 101, 115, 95, 95, 4, 0, 0, 23, 6, 238, 8, 95, 95, 100, 105, 99, 116, 95, 95, 4, 0, 0, 24, 6, 240, 11, 95, 95, 119, 101, 97, 107, 114, 101, 102, 95, 95, 4, 0, 0, 25, 6, 241, 8, 95, 95, 104, 97, 115, 104, 95, 95, 0]) 0, .bool true, .bool true, .str (Str.ofString "") 242] 1, #[]⟩
noncomputable def ob_19 (P : Params) : Obj := ⟨.type "list", none, .seq #[] 0, #[]⟩
noncomputable def ob_20 (P : Params) : Obj := ⟨.type "dict", none, .dict #[⟨PyData.keyHash P (Str.ofString "name"), .str (Str.ofString "name") 208, .str (Str.ofString "_sre") 207⟩, ⟨PyData.keyHash P (Str.ofString "loader"), .str (Str.ofString "loader") 209, .ref 14⟩, ⟨PyData.keyHash P (Str.ofString "origin"), .str (Str.ofString "origin") 210, .str (Str.ofString "built-in") 184⟩, ⟨PyData.keyHash P (Str.ofString "loader_state"), .str (Str.ofString "loader_state") 211, .none⟩, ⟨PyData.keyHash P (Str.ofString "submodule_search_locations"), .str (Str.ofString "submodule_search_locations") 212, .none⟩, ⟨PyData.keyHash P (Str.ofString "_uninitialized_submodules"), .str (Str.ofString "_uninitialized_submodules") 213, .ref 19⟩, ⟨PyData.keyHash P (Str.ofString "_set_fileattr"), .str (Str.ofString "_set_fileattr") 214, .bool false⟩, ⟨PyData.keyHash P (Str.ofString "_cached"), .str (Str.ofString "_cached") 215, .none⟩, ⟨PyData.keyHash P (Str.ofString "_initializing"), .str (Str.ofString "_initializing") 243, .bool false⟩] 9, #[]⟩
noncomputable def ob_21 (P : Params) : Obj := ⟨.type "dict", none, .dict #[⟨PyData.keyHash P (Str.ofString "__module__"), .str (Str.ofString "__module__") 227, .str (Str.ofString "_frozen_importlib") 217⟩, ⟨PyData.keyHash P (Str.ofString "__firstlineno__"), .str (Str.ofString "__firstlineno__") 228, .int 562 218⟩, ⟨PyData.keyHash P (Str.ofString "__doc__"), .str (Str.ofString "__doc__") 229, .builtin "_frozen_importlib.ModuleSpec.__doc__:str#opaque"⟩, ⟨PyData.keyHash P (Str.ofString "__init__"), .str (Str.ofString "__init__") 230, .builtin "_frozen_importlib.ModuleSpec.__init__#opaque"⟩, ⟨PyData.keyHash P (Str.ofString "__repr__"), .str (Str.ofString "__repr__") 231, .builtin "_frozen_importlib.ModuleSpec.__repr__#opaque"⟩, ⟨PyData.keyHash P (Str.ofString "__eq__"), .str (Str.ofString "__eq__") 232, .builtin "_frozen_importlib.ModuleSpec.__eq__#opaque"⟩, ⟨PyData.keyHash P (Str.ofString "cached"), .str (Str.ofString "cached") 233, .builtin "_frozen_importlib.ModuleSpec.cached#opaque"⟩, ⟨PyData.keyHash P (Str.ofString "parent"), .str (Str.ofString "parent") 234, .builtin "_frozen_importlib.ModuleSpec.parent#opaque"⟩, ⟨PyData.keyHash P (Str.ofString "has_location"), .str (Str.ofString "has_location") 235, .builtin "_frozen_importlib.ModuleSpec.has_location#opaque"⟩, ⟨PyData.keyHash P (Str.ofString "__static_attributes__"), .str (Str.ofString "__static_attributes__") 236, .ref 23⟩, ⟨PyData.keyHash P (Str.ofString "__dict__"), .str (Str.ofString "__dict__") 238, .ref 24⟩, ⟨PyData.keyHash P (Str.ofString "__weakref__"), .str (Str.ofString "__weakref__") 240, .ref 25⟩, ⟨PyData.keyHash P (Str.ofString "__hash__"), .str (Str.ofString "__hash__") 241, .none⟩] 13, #[]⟩
noncomputable def ob_22 (P : Params) : Obj := ⟨.type "type", none, .cls { name := Str.ofString "ModuleSpec", bases := [.type "object"], mro := [.ref 22, .type "object"], ns := 21, qualname := Str.ofString "ModuleSpec", hasDict := true, slotNames := [], subclasses := [], abstract := false, collection := none, hasDel := false }, #[]⟩
noncomputable def ob_23 (P : Params) : Obj := ⟨.type "tuple", none, .seq #[.str (Str.ofString "_cached") 219, .str (Str.ofString "_set_fileattr") 220, .str (Str.ofString "_uninitialized_submodules") 221, .str (Str.ofString "loader") 222, .str (Str.ofString "loader_state") 223, .str (Str.ofString "name") 224, .str (Str.ofString "origin") 225, .str (Str.ofString "submodule_search_locations") 226] 0, #[]⟩
noncomputable def ob_24 (P : Params) : Obj := ⟨.type "getset_descriptor", none, .fields #[.str (Str.ofString "__dict__") 237, .ref 22, .builtin "function.__dict__", .builtin "function.__dict__#set"], #[]⟩
noncomputable def ob_25 (P : Params) : Obj := ⟨.type "getset_descriptor", none, .fields #[.str (Str.ofString "__weakref__") 239, .ref 22, .builtin "ExceptionGroup.__weakref__", .none], #[]⟩
noncomputable def ob_26 (P : Params) : Obj := ⟨.ref 22, (some 20), .plain, #[]⟩
noncomputable def ob_27 (P : Params) : Obj := ⟨.none, none, .seq #[.int 11 0, .str (Str.mk #[6, 247, 8, 95, 95, 110, 97, 109, 101, 95, 95, 6, 246, 4, 95, 115, 114, 101, 6, 248, 7, 95, 95, 100, 111, 99, 95, 95, 0, 6, 250, 11, 95, 95, 112, 97, 99, 107, 97, 103, 101, 95, 95, 6, 249, 0, 6, 251, 10, 95, 95, 108, 111, 97, 100, 101, 114, 95, 95, 4, 0, 0, 14, 6, 252, 8, 95, 95, 115, 112, 101, 99, 95, 95, 4, 0, 0, 26, 6, 253, 7, 99, 111, 109, 112, 105, 108, 101, 9, 12, 95, 115, 114, 101, 46, 99, 111, 109, 112, 105, 108, 101, 6, 254, 8, 116, 101, 109, 112, 108, 97, 116, 101, 9, 13, 95, 115, 114, 101, 46, 116, 101, 109, 112, 108, 97, 116, 101, 6, 255, 11, 103, 101, 116, 99, 111, 100, 101, 115, 105, 122, 101, 9, 16, 95, 115, 114, 101, 46, 103, 101, 116, 99, 111, 100, 101, 115, 105, 122, 101, 6, 256, 13, 97, 115, 99, 105, 105, 95, 105, 115, 99, 97, 115, 101, 100, 9, 18, 95, 115, 114, 101, 46, 97, 115, 99, 105, 105, 95, 105, 115, 99, 97, 115, 101, 100, 6, 257, 15, 117, 110, 105, 99, 111, 100, 101, 95, 105, 115, 99, 97, 115, 101, 100, 9, 20, 95, 115, 114, 101, 46, 117, 110, 105, 99, 111, 100, 101, 95, 105, 115, 99, 97, 115, 101, 100, 6, 258, 13, 97, 115, 99, 105, 105, 95, 116, 111, 108, 111, 119, 101, 114, 9, 18, 95, 115, 114, 101, 46, 97, 115, 99, 105, 105, 95, 116, 111, 108, 111, 119, 101, 114, 6, 259, 15, 117, 110, 105, 99, 111, 100, 101, 95, 116, 111, 108, 111, 119, 101, 114, 9, 20, 95, 115, 114, 101, 46, 117, 110, 105, 99, 111, 100, 101, 95, 116, 111, 108, 111, 119, 101, 114, 6, 261, 5, 77, 65, 71, 73, 67, 4, 260, 0, 20230612, 6, 263, 8, 67, 79, 68, 69, 83, 73, 90, 69, 4, 262, 0, 4, 6, 265, 9, 77, 65, 88, 82, 69, 80, 69, 65, 84, 4, 264, 0, 4294967295, 6, 267, 9, 77, 65, 88, 71, 82, 79, 85, 80, 83, 4, 266, 0, 1073741823, 6, 269, 9, 99, 111, 112, 121, 114, 105, 103, 104, 116, 6, 268, 53, 32, 83, 82, 69, 32, 50, 46, 50, 46, 50, 32, 67, 111, 112, 121, 114, 105, 103, 104, 116, 32, 40, 99, 41, 32, 49, 57, 57, 55, 45, 50, 48, 48, 50, 32, 98, 121, 32, 83, 101, 99, 114, 101, 116, 32, 76, 97, 98, 115, 32, 65, 66, 32]) 0, .bool true, .bool false, .str (Str.ofString "_sre") 271] 0, #[]⟩
noncomputable def ob_28 (P : Params) : Obj := ⟨.type "tuple", none, .seq #[] 0, #[]⟩
noncomputable def ob_29 (P : Params) : Obj := ⟨.none, none, .fields #[.int 2 0, .int 0 0, .ref 37, .int 21 0, .int 0 0, .ref 60, .int 23 0, .int 0 0, .ref 67, .int 29 0, .int 0 0, .ref 80, .int 67 0, .int 0 0, .ref 88, .int 99 0, .int 0 0, .ref 100, .int 105 0, .int 0 0, .ref 112, .int 112 0, .int 0 0, .ref 119, .int 174 0, .int 0 0, .ref 126, .int 202 0, .int 0 0, .ref 133, .int 208 0, .int 0 0, .ref 140, .int 213 0, .int 0 0, .ref 159, .int 228 0, .int 0 0, .ref 192, .int 232 0, .int 0 0, .ref 199, .int 249 0, .int 0 0, .ref 206, .int 263 0, .int 0 0, .ref 213, .int 289 0, .int 0 0, .ref 220, .int 306 0, .int 0 0, .ref 225, .int 323 0, .int 0 0, .ref 230], #[]⟩
noncomputable def ob_30 (P : Params) : Obj := ⟨.type "code", none, .fields #[.str (Str.ofString "<module>") 277, .str (Str.ofString "<module>") 278, .str (Str.ofString "/claim/cut.py") 279, .int 1 0, .int 0 0, .int 0 0, .int 0 0, .int 0 0, .ref 28, .bool false, .int 276 0, .ref 29, .none, .none, .none, .none, .int 280 0, .int 1 0, .str (Str.ofString "/claim/cut.py") 281], #[]⟩
noncomputable def ob_31 (P : Params) : Obj := ⟨.type "frame", none, .plain, #[(some (.ref 30)), (some (.ref 3)), (some (.ref 3)), none, (some (.str (Str.ofString "__main__") 164)), none, (some (.ref 0))]⟩
noncomputable def ob_32 (P : Params) : Obj := ⟨.type "tuple", none, .seq #[] 0, #[]⟩
noncomputable def ob_33 (P : Params) : Obj := ⟨.none, none, .fields #[], #[]⟩
noncomputable def ob_34 (P : Params) : Obj := ⟨.type "tuple", none, .seq #[.str (Str.ofString "k") 285] 0, #[]⟩
noncomputable def ob_35 (P : Params) : Obj := ⟨.type "tuple", none, .seq #[] 0, #[]⟩
noncomputable def ob_36 (P : Params) : Obj := ⟨.none, none, .func { name := Str.ofString "_wall", qualname := Str.ofString "_wall", params := litA (s := (st 0)) rfl, body := .stmts (litB (s := (st 0)) rfl), scope := litS (s := (st 0)) rfl, globals := 0, closure := [], defaults := .none, kwdefaults := .none, doc := .none, pyModule := .none, annotations := none, code := .none, closureTuple := .none, builtins := 0 }, #[]⟩
noncomputable def ob_37 (P : Params) : Obj := ⟨.type "code", none, .fields #[.str (Str.ofString "_wall") 282, .str (Str.ofString "_wall") 283, .str (Str.ofString "/claim/cut.py") 284, .int 2 0, .int 1 0, .int 0 0, .int 0 0, .int 3 0, .ref 32, .bool true, .int 276 0, .ref 33, .none, .ref 34, .ref 35, .ref 36, .int 286 0, .int 2 0, .str (Str.ofString "/claim/cut.py") 287], #[]⟩
noncomputable def ob_38 (P : Params) : Obj := ⟨.type "function", none, .func { name := Str.ofString "_wall", qualname := Str.ofString "_wall", params := litA (s := (st 0)) rfl, body := .stmts (litB (s := (st 0)) rfl), scope := litS (s := (st 0)) rfl, globals := 3, closure := [], defaults := .none, kwdefaults := .none, doc := .none, pyModule := .str (Str.ofString "__main__") 164, annotations := none, code := .ref 37, closureTuple := .none, builtins := 0 }, #[]⟩
noncomputable def ob_39 (P : Params) : Obj := ⟨.type "range", none, .fields #[.int 0 294, .int 256 293, .int 1 295], #[]⟩
noncomputable def ob_40 (P : Params) : Obj := ⟨.type "range_iterator", none, .fields #[.int 256 0, .int 0 0, .int 1 0], #[]⟩
noncomputable def ob_41 (P : Params) : Obj := ⟨.type "list", none, .seq (List.toArray (.str (Str.ofString "=00") 299 :: .str (Str.ofString "=01") 303 :: .str (Str.ofString "=02") 307 :: .str (Str.ofString "=03") 311 :: .str (Str.ofString "=04") 315 :: .str (Str.ofString "=05") 319 :: .str (Str.ofString "=06") 323 :: .str (Str.ofString "=07") 327 :: .str (Str.ofString "=08") 331 :: .str (Str.ofString "=09") 335 :: .str (Str.ofString "=0A") 339 :: .str (Str.ofString "=0B") 343 :: .str (Str.ofString "=0C") 347 :: .str (Str.ofString "=0D") 351 :: .str (Str.ofString "=0E") 355 :: .str (Str.ofString "=0F") 359 :: .str (Str.ofString "=10") 363 :: .str (Str.ofString "=11") 367 :: .str (Str.ofString "=12") 371 :: .str (Str.ofString "=13") 375 :: .str (Str.ofString "=14") 379 :: .str (Str.ofString "=15") 383 :: .str (Str.ofString "=16") 387 :: .str (Str.ofString "=17") 391 :: .str (Str.ofString "=18") 395 :: .str (Str.ofString "=19") 399 :: .str (Str.ofString "=1A") 403 :: .str (Str.ofString "=1B") 407 :: .str (Str.ofString "=1C") 411 :: .str (Str.ofString "=1D") 415 :: .str (Str.ofString "=1E") 419 :: .str (Str.ofString "=1F") 423 :: .str (Str.ofString "=20") 427 :: .str (Str.ofString "=21") 431 :: .str (Str.ofString "=22") 435 :: .str (Str.ofString "=23") 439 :: .str (Str.ofString "=24") 443 :: .str (Str.ofString "=25") 447 :: .str (Str.ofString "=26") 451 :: .str (Str.ofString "=27") 455 :: .str (Str.ofString "=28") 459 :: .str (Str.ofString "=29") 463 :: .str (Str.ofString "=2A") 467 :: .str (Str.ofString "=2B") 471 :: .str (Str.ofString "=2C") 475 :: .str (Str.ofString "=2D") 479 :: .str (Str.ofString "=2E") 483 :: .str (Str.ofString "=2F") 487 :: .str (Str.ofString "=30") 491 :: .str (Str.ofString "=31") 495 :: .str (Str.ofString "=32") 499 :: .str (Str.ofString "=33") 503 :: .str (Str.ofString "=34") 507 :: .str (Str.ofString "=35") 511 :: .str (Str.ofString "=36") 515 :: .str (Str.ofString "=37") 519 :: .str (Str.ofString "=38") 523 :: .str (Str.ofString "=39") 527 :: .str (Str.ofString "=3A") 531 :: .str (Str.ofString "=3B") 535 :: .str (Str.ofString "=3C") 539 :: .str (Str.ofString "=3D") 543 :: .str (Str.ofString "=3E") 547 :: .str (Str.ofString "=3F") 551 :: .str (Str.ofString "=40") 555 :: .str (Str.ofString "=41") 559 :: .str (Str.ofString "=42") 563 :: .str (Str.ofString "=43") 567 :: .str (Str.ofString "=44") 571 :: .str (Str.ofString "=45") 575 :: .str (Str.ofString "=46") 579 :: .str (Str.ofString "=47") 583 :: .str (Str.ofString "=48") 587 :: .str (Str.ofString "=49") 591 :: .str (Str.ofString "=4A") 595 :: .str (Str.ofString "=4B") 599 :: .str (Str.ofString "=4C") 603 :: .str (Str.ofString "=4D") 607 :: .str (Str.ofString "=4E") 611 :: .str (Str.ofString "=4F") 615 :: .str (Str.ofString "=50") 619 :: .str (Str.ofString "=51") 623 :: .str (Str.ofString "=52") 627 :: .str (Str.ofString "=53") 631 :: .str (Str.ofString "=54") 635 :: .str (Str.ofString "=55") 639 :: .str (Str.ofString "=56") 643 :: .str (Str.ofString "=57") 647 :: .str (Str.ofString "=58") 651 :: .str (Str.ofString "=59") 655 :: .str (Str.ofString "=5A") 659 :: .str (Str.ofString "=5B") 663 :: .str (Str.ofString "=5C") 667 :: .str (Str.ofString "=5D") 671 :: .str (Str.ofString "=5E") 675 :: .str (Str.ofString "=5F") 679 :: .str (Str.ofString "=60") 683 :: .str (Str.ofString "=61") 687 :: .str (Str.ofString "=62") 691 :: .str (Str.ofString "=63") 695 :: .str (Str.ofString "=64") 699 :: .str (Str.ofString "=65") 703 :: .str (Str.ofString "=66") 707 :: .str (Str.ofString "=67") 711 :: .str (Str.ofString "=68") 715 :: .str (Str.ofString "=69") 719 :: .str (Str.ofString "=6A") 723 :: .str (Str.ofString "=6B") 727 :: .str (Str.ofString "=6C") 731 :: .str (Str.ofString "=6D") 735 :: .str (Str.ofString "=6E") 739 :: .str (Str.ofString "=6F") 743 :: .str (Str.ofString "=70") 747 :: .str (Str.ofString "=71") 751 :: .str (Str.ofString "=72") 755 :: .str (Str.ofString "=73") 759 :: .str (Str.ofString "=74") 763 :: .str (Str.ofString "=75") 767 :: .str (Str.ofString "=76") 771 :: .str (Str.ofString "=77") 775 :: .str (Str.ofString "=78") 779 :: .str (Str.ofString "=79") 783 :: .str (Str.ofString "=7A") 787 :: .str (Str.ofString "=7B") 791 :: .str (Str.ofString "=7C") 795 :: .str (Str.ofString "=7D") 799 :: .str (Str.ofString "=7E") 803 :: .str (Str.ofString "=7F") 807 :: .str (Str.ofString "=80") 811 :: .str (Str.ofString "=81") 815 :: .str (Str.ofString "=82") 819 :: .str (Str.ofString "=83") 823 :: .str (Str.ofString "=84") 827 :: .str (Str.ofString "=85") 831 :: .str (Str.ofString "=86") 835 :: .str (Str.ofString "=87") 839 :: .str (Str.ofString "=88") 843 :: .str (Str.ofString "=89") 847 :: .str (Str.ofString "=8A") 851 :: .str (Str.ofString "=8B") 855 :: .str (Str.ofString "=8C") 859 :: .str (Str.ofString "=8D") 863 :: .str (Str.ofString "=8E") 867 :: .str (Str.ofString "=8F") 871 :: .str (Str.ofString "=90") 875 :: .str (Str.ofString "=91") 879 :: .str (Str.ofString "=92") 883 :: .str (Str.ofString "=93") 887 :: .str (Str.ofString "=94") 891 :: .str (Str.ofString "=95") 895 :: .str (Str.ofString "=96") 899 :: .str (Str.ofString "=97") 903 :: .str (Str.ofString "=98") 907 :: .str (Str.ofString "=99") 911 :: .str (Str.ofString "=9A") 915 :: .str (Str.ofString "=9B") 919 :: .str (Str.ofString "=9C") 923 :: .str (Str.ofString "=9D") 927 :: .str (Str.ofString "=9E") 931 :: .str (Str.ofString "=9F") 935 :: .str (Str.ofString "=A0") 939 :: .str (Str.ofString "=A1") 943 :: .str (Str.ofString "=A2") 947 :: .str (Str.ofString "=A3") 951 :: .str (Str.ofString "=A4") 955 :: .str (Str.ofString "=A5") 959 :: .str (Str.ofString "=A6") 963 :: .str (Str.ofString "=A7") 967 :: .str (Str.ofString "=A8") 971 :: .str (Str.ofString "=A9") 975 :: .str (Str.ofString "=AA") 979 :: .str (Str.ofString "=AB") 983 :: .str (Str.ofString "=AC") 987 :: .str (Str.ofString "=AD") 991 :: .str (Str.ofString "=AE") 995 :: .str (Str.ofString "=AF") 999 :: .str (Str.ofString "=B0") 1003 :: .str (Str.ofString "=B1") 1007 :: .str (Str.ofString "=B2") 1011 :: .str (Str.ofString "=B3") 1015 :: .str (Str.ofString "=B4") 1019 :: .str (Str.ofString "=B5") 1023 :: .str (Str.ofString "=B6") 1027 :: .str (Str.ofString "=B7") 1031 :: .str (Str.ofString "=B8") 1035 :: .str (Str.ofString "=B9") 1039 :: .str (Str.ofString "=BA") 1043 :: .str (Str.ofString "=BB") 1047 :: .str (Str.ofString "=BC") 1051 :: .str (Str.ofString "=BD") 1055 :: .str (Str.ofString "=BE") 1059 :: .str (Str.ofString "=BF") 1063 :: .str (Str.ofString "=C0") 1067 :: .str (Str.ofString "=C1") 1071 :: .str (Str.ofString "=C2") 1075 :: .str (Str.ofString "=C3") 1079 :: .str (Str.ofString "=C4") 1083 :: .str (Str.ofString "=C5") 1087 :: .str (Str.ofString "=C6") 1091 :: .str (Str.ofString "=C7") 1095 :: .str (Str.ofString "=C8") 1099 :: .str (Str.ofString "=C9") 1103 :: .str (Str.ofString "=CA") 1107 :: .str (Str.ofString "=CB") 1111 :: .str (Str.ofString "=CC") 1115 :: .str (Str.ofString "=CD") 1119 :: .str (Str.ofString "=CE") 1123 :: .str (Str.ofString "=CF") 1127 :: .str (Str.ofString "=D0") 1131 :: .str (Str.ofString "=D1") 1135 :: .str (Str.ofString "=D2") 1139 :: .str (Str.ofString "=D3") 1143 :: .str (Str.ofString "=D4") 1147 :: .str (Str.ofString "=D5") 1151 :: .str (Str.ofString "=D6") 1155 :: .str (Str.ofString "=D7") 1159 :: .str (Str.ofString "=D8") 1163 :: .str (Str.ofString "=D9") 1167 :: .str (Str.ofString "=DA") 1171 :: .str (Str.ofString "=DB") 1175 :: .str (Str.ofString "=DC") 1179 :: .str (Str.ofString "=DD") 1183 :: .str (Str.ofString "=DE") 1187 :: .str (Str.ofString "=DF") 1191 :: .str (Str.ofString "=E0") 1195 :: .str (Str.ofString "=E1") 1199 :: .str (Str.ofString "=E2") 1203 :: .str (Str.ofString "=E3") 1207 :: .str (Str.ofString "=E4") 1211 :: .str (Str.ofString "=E5") 1215 :: .str (Str.ofString "=E6") 1219 :: .str (Str.ofString "=E7") 1223 :: .str (Str.ofString "=E8") 1227 :: .str (Str.ofString "=E9") 1231 :: .str (Str.ofString "=EA") 1235 :: .str (Str.ofString "=EB") 1239 :: .str (Str.ofString "=EC") 1243 :: .str (Str.ofString "=ED") 1247 :: .str (Str.ofString "=EE") 1251 :: .str (Str.ofString "=EF") 1255 :: .str (Str.ofString "=F0") 1259 :: .str (Str.ofString "=F1") 1263 :: .str (Str.ofString "=F2") 1267 :: .str (Str.ofString "=F3") 1271 :: .str (Str.ofString "=F4") 1275 :: .str (Str.ofString "=F5") 1279 :: .str (Str.ofString "=F6") 1283 :: .str (Str.ofString "=F7") 1287 :: .str (Str.ofString "=F8") 1291 :: .str (Str.ofString "=F9") 1295 :: .str (Str.ofString "=FA") 1299 :: .str (Str.ofString "=FB") 1303 :: .str (Str.ofString "=FC") 1307 :: .str (Str.ofString "=FD") 1311 :: .str (Str.ofString "=FE") 1315 :: .str (Str.ofString "=FF") 1319 :: [])) 256, #[]⟩
noncomputable def ob_42 (P : Params) : Obj := ⟨.type "dict", none, .dict #[] 2, #[]⟩
noncomputable def ob_43 (P : Params) : Obj := ⟨.type "tuple", none, .seq #[] 0, #[]⟩
noncomputable def ob_44 (P : Params) : Obj := ⟨.type "StopIteration", none, .fields #[.ref 43, .none, .none, .none, .bool false, .none], #[]⟩
noncomputable def ob_45 (P : Params) : Obj := ⟨.type "slice", none, .fields #[.none, .none, .none], #[]⟩
noncomputable def ob_46 (P : Params) : Obj := ⟨.type "list", none, .seq (List.toArray (.str (Str.ofString "=00") 299 :: .str (Str.ofString "=01") 303 :: .str (Str.ofString "=02") 307 :: .str (Str.ofString "=03") 311 :: .str (Str.ofString "=04") 315 :: .str (Str.ofString "=05") 319 :: .str (Str.ofString "=06") 323 :: .str (Str.ofString "=07") 327 :: .str (Str.ofString "=08") 331 :: .str (Str.ofString "=09") 335 :: .str (Str.ofString "=0A") 339 :: .str (Str.ofString "=0B") 343 :: .str (Str.ofString "=0C") 347 :: .str (Str.ofString "=0D") 351 :: .str (Str.ofString "=0E") 355 :: .str (Str.ofString "=0F") 359 :: .str (Str.ofString "=10") 363 :: .str (Str.ofString "=11") 367 :: .str (Str.ofString "=12") 371 :: .str (Str.ofString "=13") 375 :: .str (Str.ofString "=14") 379 :: .str (Str.ofString "=15") 383 :: .str (Str.ofString "=16") 387 :: .str (Str.ofString "=17") 391 :: .str (Str.ofString "=18") 395 :: .str (Str.ofString "=19") 399 :: .str (Str.ofString "=1A") 403 :: .str (Str.ofString "=1B") 407 :: .str (Str.ofString "=1C") 411 :: .str (Str.ofString "=1D") 415 :: .str (Str.ofString "=1E") 419 :: .str (Str.ofString "=1F") 423 :: .str (Str.ofString "_") 1546 :: .str (Str.ofString "!") 1350 :: .str (Str.ofString "=22") 435 :: .str (Str.ofString "=23") 439 :: .str (Str.ofString "=24") 443 :: .str (Str.ofString "=25") 447 :: .str (Str.ofString "=26") 451 :: .str (Str.ofString "=27") 455 :: .str (Str.ofString "=28") 459 :: .str (Str.ofString "=29") 463 :: .str (Str.ofString "*") 1353 :: .str (Str.ofString "+") 1356 :: .str (Str.ofString "=2C") 475 :: .str (Str.ofString "-") 1347 :: .str (Str.ofString "=2E") 483 :: .str (Str.ofString "/") 1359 :: .str (Str.ofString "0") 1518 :: .str (Str.ofString "1") 1521 :: .str (Str.ofString "2") 1524 :: .str (Str.ofString "3") 1527 :: .str (Str.ofString "4") 1530 :: .str (Str.ofString "5") 1533 :: .str (Str.ofString "6") 1536 :: .str (Str.ofString "7") 1539 :: .str (Str.ofString "8") 1542 :: .str (Str.ofString "9") 1545 :: .str (Str.ofString "=3A") 531 :: .str (Str.ofString "=3B") 535 :: .str (Str.ofString "=3C") 539 :: .str (Str.ofString "=3D") 543 :: .str (Str.ofString "=3E") 547 :: .str (Str.ofString "=3F") 551 :: .str (Str.ofString "=40") 555 :: .str (Str.ofString "A") 1440 :: .str (Str.ofString "B") 1443 :: .str (Str.ofString "C") 1446 :: .str (Str.ofString "D") 1449 :: .str (Str.ofString "E") 1452 :: .str (Str.ofString "F") 1455 :: .str (Str.ofString "G") 1458 :: .str (Str.ofString "H") 1461 :: .str (Str.ofString "I") 1464 :: .str (Str.ofString "J") 1467 :: .str (Str.ofString "K") 1470 :: .str (Str.ofString "L") 1473 :: .str (Str.ofString "M") 1476 :: .str (Str.ofString "N") 1479 :: .str (Str.ofString "O") 1482 :: .str (Str.ofString "P") 1485 :: .str (Str.ofString "Q") 1488 :: .str (Str.ofString "R") 1491 :: .str (Str.ofString "S") 1494 :: .str (Str.ofString "T") 1497 :: .str (Str.ofString "U") 1500 :: .str (Str.ofString "V") 1503 :: .str (Str.ofString "W") 1506 :: .str (Str.ofString "X") 1509 :: .str (Str.ofString "Y") 1512 :: .str (Str.ofString "Z") 1515 :: .str (Str.ofString "=5B") 663 :: .str (Str.ofString "=5C") 667 :: .str (Str.ofString "=5D") 671 :: .str (Str.ofString "=5E") 675 :: .str (Str.ofString "=5F") 679 :: .str (Str.ofString "=60") 683 :: .str (Str.ofString "a") 1362 :: .str (Str.ofString "b") 1365 :: .str (Str.ofString "c") 1368 :: .str (Str.ofString "d") 1371 :: .str (Str.ofString "e") 1374 :: .str (Str.ofString "f") 1377 :: .str (Str.ofString "g") 1380 :: .str (Str.ofString "h") 1383 :: .str (Str.ofString "i") 1386 :: .str (Str.ofString "j") 1389 :: .str (Str.ofString "k") 1392 :: .str (Str.ofString "l") 1395 :: .str (Str.ofString "m") 1398 :: .str (Str.ofString "n") 1401 :: .str (Str.ofString "o") 1404 :: .str (Str.ofString "p") 1407 :: .str (Str.ofString "q") 1410 :: .str (Str.ofString "r") 1413 :: .str (Str.ofString "s") 1416 :: .str (Str.ofString "t") 1419 :: .str (Str.ofString "u") 1422 :: .str (Str.ofString "v") 1425 :: .str (Str.ofString "w") 1428 :: .str (Str.ofString "x") 1431 :: .str (Str.ofString "y") 1434 :: .str (Str.ofString "z") 1437 :: .str (Str.ofString "=7B") 791 :: .str (Str.ofString "=7C") 795 :: .str (Str.ofString "=7D") 799 :: .str (Str.ofString "=7E") 803 :: .str (Str.ofString "=7F") 807 :: .str (Str.ofString "=80") 811 :: .str (Str.ofString "=81") 815 :: .str (Str.ofString "=82") 819 :: .str (Str.ofString "=83") 823 :: .str (Str.ofString "=84") 827 :: .str (Str.ofString "=85") 831 :: .str (Str.ofString "=86") 835 :: .str (Str.ofString "=87") 839 :: .str (Str.ofString "=88") 843 :: .str (Str.ofString "=89") 847 :: .str (Str.ofString "=8A") 851 :: .str (Str.ofString "=8B") 855 :: .str (Str.ofString "=8C") 859 :: .str (Str.ofString "=8D") 863 :: .str (Str.ofString "=8E") 867 :: .str (Str.ofString "=8F") 871 :: .str (Str.ofString "=90") 875 :: .str (Str.ofString "=91") 879 :: .str (Str.ofString "=92") 883 :: .str (Str.ofString "=93") 887 :: .str (Str.ofString "=94") 891 :: .str (Str.ofString "=95") 895 :: .str (Str.ofString "=96") 899 :: .str (Str.ofString "=97") 903 :: .str (Str.ofString "=98") 907 :: .str (Str.ofString "=99") 911 :: .str (Str.ofString "=9A") 915 :: .str (Str.ofString "=9B") 919 :: .str (Str.ofString "=9C") 923 :: .str (Str.ofString "=9D") 927 :: .str (Str.ofString "=9E") 931 :: .str (Str.ofString "=9F") 935 :: .str (Str.ofString "=A0") 939 :: .str (Str.ofString "=A1") 943 :: .str (Str.ofString "=A2") 947 :: .str (Str.ofString "=A3") 951 :: .str (Str.ofString "=A4") 955 :: .str (Str.ofString "=A5") 959 :: .str (Str.ofString "=A6") 963 :: .str (Str.ofString "=A7") 967 :: .str (Str.ofString "=A8") 971 :: .str (Str.ofString "=A9") 975 :: .str (Str.ofString "=AA") 979 :: .str (Str.ofString "=AB") 983 :: .str (Str.ofString "=AC") 987 :: .str (Str.ofString "=AD") 991 :: .str (Str.ofString "=AE") 995 :: .str (Str.ofString "=AF") 999 :: .str (Str.ofString "=B0") 1003 :: .str (Str.ofString "=B1") 1007 :: .str (Str.ofString "=B2") 1011 :: .str (Str.ofString "=B3") 1015 :: .str (Str.ofString "=B4") 1019 :: .str (Str.ofString "=B5") 1023 :: .str (Str.ofString "=B6") 1027 :: .str (Str.ofString "=B7") 1031 :: .str (Str.ofString "=B8") 1035 :: .str (Str.ofString "=B9") 1039 :: .str (Str.ofString "=BA") 1043 :: .str (Str.ofString "=BB") 1047 :: .str (Str.ofString "=BC") 1051 :: .str (Str.ofString "=BD") 1055 :: .str (Str.ofString "=BE") 1059 :: .str (Str.ofString "=BF") 1063 :: .str (Str.ofString "=C0") 1067 :: .str (Str.ofString "=C1") 1071 :: .str (Str.ofString "=C2") 1075 :: .str (Str.ofString "=C3") 1079 :: .str (Str.ofString "=C4") 1083 :: .str (Str.ofString "=C5") 1087 :: .str (Str.ofString "=C6") 1091 :: .str (Str.ofString "=C7") 1095 :: .str (Str.ofString "=C8") 1099 :: .str (Str.ofString "=C9") 1103 :: .str (Str.ofString "=CA") 1107 :: .str (Str.ofString "=CB") 1111 :: .str (Str.ofString "=CC") 1115 :: .str (Str.ofString "=CD") 1119 :: .str (Str.ofString "=CE") 1123 :: .str (Str.ofString "=CF") 1127 :: .str (Str.ofString "=D0") 1131 :: .str (Str.ofString "=D1") 1135 :: .str (Str.ofString "=D2") 1139 :: .str (Str.ofString "=D3") 1143 :: .str (Str.ofString "=D4") 1147 :: .str (Str.ofString "=D5") 1151 :: .str (Str.ofString "=D6") 1155 :: .str (Str.ofString "=D7") 1159 :: .str (Str.ofString "=D8") 1163 :: .str (Str.ofString "=D9") 1167 :: .str (Str.ofString "=DA") 1171 :: .str (Str.ofString "=DB") 1175 :: .str (Str.ofString "=DC") 1179 :: .str (Str.ofString "=DD") 1183 :: .str (Str.ofString "=DE") 1187 :: .str (Str.ofString "=DF") 1191 :: .str (Str.ofString "=E0") 1195 :: .str (Str.ofString "=E1") 1199 :: .str (Str.ofString "=E2") 1203 :: .str (Str.ofString "=E3") 1207 :: .str (Str.ofString "=E4") 1211 :: .str (Str.ofString "=E5") 1215 :: .str (Str.ofString "=E6") 1219 :: .str (Str.ofString "=E7") 1223 :: .str (Str.ofString "=E8") 1227 :: .str (Str.ofString "=E9") 1231 :: .str (Str.ofString "=EA") 1235 :: .str (Str.ofString "=EB") 1239 :: .str (Str.ofString "=EC") 1243 :: .str (Str.ofString "=ED") 1247 :: .str (Str.ofString "=EE") 1251 :: .str (Str.ofString "=EF") 1255 :: .str (Str.ofString "=F0") 1259 :: .str (Str.ofString "=F1") 1263 :: .str (Str.ofString "=F2") 1267 :: .str (Str.ofString "=F3") 1271 :: .str (Str.ofString "=F4") 1275 :: .str (Str.ofString "=F5") 1279 :: .str (Str.ofString "=F6") 1283 :: .str (Str.ofString "=F7") 1287 :: .str (Str.ofString "=F8") 1291 :: .str (Str.ofString "=F9") 1295 :: .str (Str.ofString "=FA") 1299 :: .str (Str.ofString "=FB") 1303 :: .str (Str.ofString "=FC") 1307 :: .str (Str.ofString "=FD") 1311 :: .str (Str.ofString "=FE") 1315 :: .str (Str.ofString "=FF") 1319 :: [])) 0, #[]⟩
noncomputable def ob_47 (P : Params) : Obj := ⟨.type "slice", none, .fields #[.none, .none, .none], #[]⟩
noncomputable def ob_48 (P : Params) : Obj := ⟨.type "list", none, .seq (List.toArray (.str (Str.ofString "=00") 299 :: .str (Str.ofString "=01") 303 :: .str (Str.ofString "=02") 307 :: .str (Str.ofString "=03") 311 :: .str (Str.ofString "=04") 315 :: .str (Str.ofString "=05") 319 :: .str (Str.ofString "=06") 323 :: .str (Str.ofString "=07") 327 :: .str (Str.ofString "=08") 331 :: .str (Str.ofString "\t") 1834 :: .str (Str.ofString "=0A") 339 :: .str (Str.ofString "=0B") 343 :: .str (Str.ofString "=0C") 347 :: .str (Str.ofString "=0D") 351 :: .str (Str.ofString "=0E") 355 :: .str (Str.ofString "=0F") 359 :: .str (Str.ofString "=10") 363 :: .str (Str.ofString "=11") 367 :: .str (Str.ofString "=12") 371 :: .str (Str.ofString "=13") 375 :: .str (Str.ofString "=14") 379 :: .str (Str.ofString "=15") 383 :: .str (Str.ofString "=16") 387 :: .str (Str.ofString "=17") 391 :: .str (Str.ofString "=18") 395 :: .str (Str.ofString "=19") 399 :: .str (Str.ofString "=1A") 403 :: .str (Str.ofString "=1B") 407 :: .str (Str.ofString "=1C") 411 :: .str (Str.ofString "=1D") 415 :: .str (Str.ofString "=1E") 419 :: .str (Str.ofString "=1F") 423 :: .str (Str.ofString " ") 1552 :: .str (Str.ofString "!") 1555 :: .str (Str.ofString "\"") 1558 :: .str (Str.ofString "#") 1561 :: .str (Str.ofString "$") 1564 :: .str (Str.ofString "%") 1567 :: .str (Str.ofString "&") 1570 :: .str (Str.ofString "'") 1573 :: .str (Str.ofString "(") 1576 :: .str (Str.ofString ")") 1579 :: .str (Str.ofString "*") 1582 :: .str (Str.ofString "+") 1585 :: .str (Str.ofString ",") 1588 :: .str (Str.ofString "-") 1591 :: .str (Str.ofString ".") 1594 :: .str (Str.ofString "/") 1597 :: .str (Str.ofString "0") 1600 :: .str (Str.ofString "1") 1603 :: .str (Str.ofString "2") 1606 :: .str (Str.ofString "3") 1609 :: .str (Str.ofString "4") 1612 :: .str (Str.ofString "5") 1615 :: .str (Str.ofString "6") 1618 :: .str (Str.ofString "7") 1621 :: .str (Str.ofString "8") 1624 :: .str (Str.ofString "9") 1627 :: .str (Str.ofString ":") 1630 :: .str (Str.ofString ";") 1633 :: .str (Str.ofString "<") 1636 :: .str (Str.ofString "=3D") 543 :: .str (Str.ofString ">") 1639 :: .str (Str.ofString "?") 1642 :: .str (Str.ofString "@") 1645 :: .str (Str.ofString "A") 1648 :: .str (Str.ofString "B") 1651 :: .str (Str.ofString "C") 1654 :: .str (Str.ofString "D") 1657 :: .str (Str.ofString "E") 1660 :: .str (Str.ofString "F") 1663 :: .str (Str.ofString "G") 1666 :: .str (Str.ofString "H") 1669 :: .str (Str.ofString "I") 1672 :: .str (Str.ofString "J") 1675 :: .str (Str.ofString "K") 1678 :: .str (Str.ofString "L") 1681 :: .str (Str.ofString "M") 1684 :: .str (Str.ofString "N") 1687 :: .str (Str.ofString "O") 1690 :: .str (Str.ofString "P") 1693 :: .str (Str.ofString "Q") 1696 :: .str (Str.ofString "R") 1699 :: .str (Str.ofString "S") 1702 :: .str (Str.ofString "T") 1705 :: .str (Str.ofString "U") 1708 :: .str (Str.ofString "V") 1711 :: .str (Str.ofString "W") 1714 :: .str (Str.ofString "X") 1717 :: .str (Str.ofString "Y") 1720 :: .str (Str.ofString "Z") 1723 :: .str (Str.ofString "[") 1726 :: .str (Str.ofString "\\") 1729 :: .str (Str.ofString "]") 1732 :: .str (Str.ofString "^") 1735 :: .str (Str.ofString "_") 1738 :: .str (Str.ofString "`") 1741 :: .str (Str.ofString "a") 1744 :: .str (Str.ofString "b") 1747 :: .str (Str.ofString "c") 1750 :: .str (Str.ofString "d") 1753 :: .str (Str.ofString "e") 1756 :: .str (Str.ofString "f") 1759 :: .str (Str.ofString "g") 1762 :: .str (Str.ofString "h") 1765 :: .str (Str.ofString "i") 1768 :: .str (Str.ofString "j") 1771 :: .str (Str.ofString "k") 1774 :: .str (Str.ofString "l") 1777 :: .str (Str.ofString "m") 1780 :: .str (Str.ofString "n") 1783 :: .str (Str.ofString "o") 1786 :: .str (Str.ofString "p") 1789 :: .str (Str.ofString "q") 1792 :: .str (Str.ofString "r") 1795 :: .str (Str.ofString "s") 1798 :: .str (Str.ofString "t") 1801 :: .str (Str.ofString "u") 1804 :: .str (Str.ofString "v") 1807 :: .str (Str.ofString "w") 1810 :: .str (Str.ofString "x") 1813 :: .str (Str.ofString "y") 1816 :: .str (Str.ofString "z") 1819 :: .str (Str.ofString "{") 1822 :: .str (Str.ofString "|") 1825 :: .str (Str.ofString "}") 1828 :: .str (Str.ofString "~") 1831 :: .str (Str.ofString "=7F") 807 :: .str (Str.ofString "=80") 811 :: .str (Str.ofString "=81") 815 :: .str (Str.ofString "=82") 819 :: .str (Str.ofString "=83") 823 :: .str (Str.ofString "=84") 827 :: .str (Str.ofString "=85") 831 :: .str (Str.ofString "=86") 835 :: .str (Str.ofString "=87") 839 :: .str (Str.ofString "=88") 843 :: .str (Str.ofString "=89") 847 :: .str (Str.ofString "=8A") 851 :: .str (Str.ofString "=8B") 855 :: .str (Str.ofString "=8C") 859 :: .str (Str.ofString "=8D") 863 :: .str (Str.ofString "=8E") 867 :: .str (Str.ofString "=8F") 871 :: .str (Str.ofString "=90") 875 :: .str (Str.ofString "=91") 879 :: .str (Str.ofString "=92") 883 :: .str (Str.ofString "=93") 887 :: .str (Str.ofString "=94") 891 :: .str (Str.ofString "=95") 895 :: .str (Str.ofString "=96") 899 :: .str (Str.ofString "=97") 903 :: .str (Str.ofString "=98") 907 :: .str (Str.ofString "=99") 911 :: .str (Str.ofString "=9A") 915 :: .str (Str.ofString "=9B") 919 :: .str (Str.ofString "=9C") 923 :: .str (Str.ofString "=9D") 927 :: .str (Str.ofString "=9E") 931 :: .str (Str.ofString "=9F") 935 :: .str (Str.ofString "=A0") 939 :: .str (Str.ofString "=A1") 943 :: .str (Str.ofString "=A2") 947 :: .str (Str.ofString "=A3") 951 :: .str (Str.ofString "=A4") 955 :: .str (Str.ofString "=A5") 959 :: .str (Str.ofString "=A6") 963 :: .str (Str.ofString "=A7") 967 :: .str (Str.ofString "=A8") 971 :: .str (Str.ofString "=A9") 975 :: .str (Str.ofString "=AA") 979 :: .str (Str.ofString "=AB") 983 :: .str (Str.ofString "=AC") 987 :: .str (Str.ofString "=AD") 991 :: .str (Str.ofString "=AE") 995 :: .str (Str.ofString "=AF") 999 :: .str (Str.ofString "=B0") 1003 :: .str (Str.ofString "=B1") 1007 :: .str (Str.ofString "=B2") 1011 :: .str (Str.ofString "=B3") 1015 :: .str (Str.ofString "=B4") 1019 :: .str (Str.ofString "=B5") 1023 :: .str (Str.ofString "=B6") 1027 :: .str (Str.ofString "=B7") 1031 :: .str (Str.ofString "=B8") 1035 :: .str (Str.ofString "=B9") 1039 :: .str (Str.ofString "=BA") 1043 :: .str (Str.ofString "=BB") 1047 :: .str (Str.ofString "=BC") 1051 :: .str (Str.ofString "=BD") 1055 :: .str (Str.ofString "=BE") 1059 :: .str (Str.ofString "=BF") 1063 :: .str (Str.ofString "=C0") 1067 :: .str (Str.ofString "=C1") 1071 :: .str (Str.ofString "=C2") 1075 :: .str (Str.ofString "=C3") 1079 :: .str (Str.ofString "=C4") 1083 :: .str (Str.ofString "=C5") 1087 :: .str (Str.ofString "=C6") 1091 :: .str (Str.ofString "=C7") 1095 :: .str (Str.ofString "=C8") 1099 :: .str (Str.ofString "=C9") 1103 :: .str (Str.ofString "=CA") 1107 :: .str (Str.ofString "=CB") 1111 :: .str (Str.ofString "=CC") 1115 :: .str (Str.ofString "=CD") 1119 :: .str (Str.ofString "=CE") 1123 :: .str (Str.ofString "=CF") 1127 :: .str (Str.ofString "=D0") 1131 :: .str (Str.ofString "=D1") 1135 :: .str (Str.ofString "=D2") 1139 :: .str (Str.ofString "=D3") 1143 :: .str (Str.ofString "=D4") 1147 :: .str (Str.ofString "=D5") 1151 :: .str (Str.ofString "=D6") 1155 :: .str (Str.ofString "=D7") 1159 :: .str (Str.ofString "=D8") 1163 :: .str (Str.ofString "=D9") 1167 :: .str (Str.ofString "=DA") 1171 :: .str (Str.ofString "=DB") 1175 :: .str (Str.ofString "=DC") 1179 :: .str (Str.ofString "=DD") 1183 :: .str (Str.ofString "=DE") 1187 :: .str (Str.ofString "=DF") 1191 :: .str (Str.ofString "=E0") 1195 :: .str (Str.ofString "=E1") 1199 :: .str (Str.ofString "=E2") 1203 :: .str (Str.ofString "=E3") 1207 :: .str (Str.ofString "=E4") 1211 :: .str (Str.ofString "=E5") 1215 :: .str (Str.ofString "=E6") 1219 :: .str (Str.ofString "=E7") 1223 :: .str (Str.ofString "=E8") 1227 :: .str (Str.ofString "=E9") 1231 :: .str (Str.ofString "=EA") 1235 :: .str (Str.ofString "=EB") 1239 :: .str (Str.ofString "=EC") 1243 :: .str (Str.ofString "=ED") 1247 :: .str (Str.ofString "=EE") 1251 :: .str (Str.ofString "=EF") 1255 :: .str (Str.ofString "=F0") 1259 :: .str (Str.ofString "=F1") 1263 :: .str (Str.ofString "=F2") 1267 :: .str (Str.ofString "=F3") 1271 :: .str (Str.ofString "=F4") 1275 :: .str (Str.ofString "=F5") 1279 :: .str (Str.ofString "=F6") 1283 :: .str (Str.ofString "=F7") 1287 :: .str (Str.ofString "=F8") 1291 :: .str (Str.ofString "=F9") 1295 :: .str (Str.ofString "=FA") 1299 :: .str (Str.ofString "=FB") 1303 :: .str (Str.ofString "=FC") 1307 :: .str (Str.ofString "=FD") 1311 :: .str (Str.ofString "=FE") 1315 :: .str (Str.ofString "=FF") 1319 :: [])) 0, #[]⟩
noncomputable def ob_49 (P : Params) : Obj := ⟨.type "bytes_iterator", none, .fields #[.none, .int 67 0], #[]⟩
noncomputable def ob_50 (P : Params) : Obj := ⟨.type "tuple", none, .seq #[] 0, #[]⟩
noncomputable def ob_51 (P : Params) : Obj := ⟨.type "StopIteration", none, .fields #[.ref 50, .none, .none, .none, .bool false, .none], #[]⟩
noncomputable def ob_52 (P : Params) : Obj := ⟨.type "bytes_iterator", none, .fields #[.none, .int 95 0], #[]⟩
noncomputable def ob_53 (P : Params) : Obj := ⟨.type "tuple", none, .seq #[] 0, #[]⟩
noncomputable def ob_54 (P : Params) : Obj := ⟨.type "StopIteration", none, .fields #[.ref 53, .none, .none, .none, .bool false, .none], #[]⟩
noncomputable def ob_55 (P : Params) : Obj := ⟨.type "tuple", none, .seq #[] 0, #[]⟩
noncomputable def ob_56 (P : Params) : Obj := ⟨.none, none, .fields #[], #[]⟩
noncomputable def ob_57 (P : Params) : Obj := ⟨.type "tuple", none, .seq #[.str (Str.ofString "s") 1838] 0, #[]⟩
noncomputable def ob_58 (P : Params) : Obj := ⟨.type "tuple", none, .seq #[] 0, #[]⟩
noncomputable def ob_59 (P : Params) : Obj := ⟨.none, none, .func { name := Str.ofString "unquote", qualname := Str.ofString "unquote", params := litA (s := (st 15)) rfl, body := .stmts (litB (s := (st 15)) rfl), scope := litS (s := (st 15)) rfl, globals := 0, closure := [], defaults := .none, kwdefaults := .none, doc := .none, pyModule := .none, annotations := none, code := .none, closureTuple := .none, builtins := 0 }, #[]⟩
noncomputable def ob_60 (P : Params) : Obj := ⟨.type "code", none, .fields #[.str (Str.ofString "unquote") 1835, .str (Str.ofString "unquote") 1836, .str (Str.ofString "/claim/cut.py") 1837, .int 21 0, .int 1 0, .int 0 0, .int 0 0, .int 3 0, .ref 55, .bool true, .int 276 0, .ref 56, .none, .ref 57, .ref 58, .ref 59, .int 1839 0, .int 21 0, .str (Str.ofString "/claim/cut.py") 1840], #[]⟩
noncomputable def ob_61 (P : Params) : Obj := ⟨.type "function", none, .func { name := Str.ofString "unquote", qualname := Str.ofString "unquote", params := litA (s := (st 15)) rfl, body := .stmts (litB (s := (st 15)) rfl), scope := litS (s := (st 15)) rfl, globals := 3, closure := [], defaults := .none, kwdefaults := .none, doc := .none, pyModule := .str (Str.ofString "cpy313.email.quoprimime") 1336, annotations := none, code := .ref 60, closureTuple := .none, builtins := 0 }, #[]⟩
noncomputable def ob_62 (P : Params) : Obj := ⟨.type "tuple", none, .seq #[] 0, #[]⟩
noncomputable def ob_63 (P : Params) : Obj := ⟨.none, none, .fields #[], #[]⟩
noncomputable def ob_64 (P : Params) : Obj := ⟨.type "tuple", none, .seq #[.str (Str.ofString "c") 1845] 0, #[]⟩
noncomputable def ob_65 (P : Params) : Obj := ⟨.type "tuple", none, .seq #[] 0, #[]⟩
noncomputable def ob_66 (P : Params) : Obj := ⟨.none, none, .func { name := Str.ofString "quote", qualname := Str.ofString "quote", params := litA (s := (st 16)) rfl, body := .stmts (litB (s := (st 16)) rfl), scope := litS (s := (st 16)) rfl, globals := 0, closure := [], defaults := .none, kwdefaults := .none, doc := .none, pyModule := .none, annotations := none, code := .none, closureTuple := .none, builtins := 0 }, #[]⟩
noncomputable def ob_67 (P : Params) : Obj := ⟨.type "code", none, .fields #[.str (Str.ofString "quote") 1842, .str (Str.ofString "quote") 1843, .str (Str.ofString "/claim/cut.py") 1844, .int 23 0, .int 1 0, .int 0 0, .int 0 0, .int 3 0, .ref 62, .bool true, .int 276 0, .ref 63, .none, .ref 64, .ref 65, .ref 66, .int 1846 0, .int 23 0, .str (Str.ofString "/claim/cut.py") 1847], #[]⟩
noncomputable def ob_68 (P : Params) : Obj := ⟨.type "function", none, .func { name := Str.ofString "quote", qualname := Str.ofString "quote", params := litA (s := (st 16)) rfl, body := .stmts (litB (s := (st 16)) rfl), scope := litS (s := (st 16)) rfl, globals := 3, closure := [], defaults := .none, kwdefaults := .none, doc := .none, pyModule := .str (Str.ofString "cpy313.email.quoprimime") 1336, annotations := none, code := .ref 67, closureTuple := .none, builtins := 0 }, #[]⟩
noncomputable def ob_69 (P : Params) : Obj := ⟨.type "slice", none, .fields #[.none, .none, .none], #[]⟩
noncomputable def ob_70 (P : Params) : Obj := ⟨.type "list", none, .seq (List.toArray (.str (Str.ofString "=00") 299 :: .str (Str.ofString "=01") 303 :: .str (Str.ofString "=02") 307 :: .str (Str.ofString "=03") 311 :: .str (Str.ofString "=04") 315 :: .str (Str.ofString "=05") 319 :: .str (Str.ofString "=06") 323 :: .str (Str.ofString "=07") 327 :: .str (Str.ofString "=08") 331 :: .str (Str.ofString "\t") 1834 :: .str (Str.ofString "\n") 1856 :: .str (Str.ofString "=0B") 343 :: .str (Str.ofString "=0C") 347 :: .str (Str.ofString "\x0d") 1853 :: .str (Str.ofString "=0E") 355 :: .str (Str.ofString "=0F") 359 :: .str (Str.ofString "=10") 363 :: .str (Str.ofString "=11") 367 :: .str (Str.ofString "=12") 371 :: .str (Str.ofString "=13") 375 :: .str (Str.ofString "=14") 379 :: .str (Str.ofString "=15") 383 :: .str (Str.ofString "=16") 387 :: .str (Str.ofString "=17") 391 :: .str (Str.ofString "=18") 395 :: .str (Str.ofString "=19") 399 :: .str (Str.ofString "=1A") 403 :: .str (Str.ofString "=1B") 407 :: .str (Str.ofString "=1C") 411 :: .str (Str.ofString "=1D") 415 :: .str (Str.ofString "=1E") 419 :: .str (Str.ofString "=1F") 423 :: .str (Str.ofString " ") 1552 :: .str (Str.ofString "!") 1555 :: .str (Str.ofString "\"") 1558 :: .str (Str.ofString "#") 1561 :: .str (Str.ofString "$") 1564 :: .str (Str.ofString "%") 1567 :: .str (Str.ofString "&") 1570 :: .str (Str.ofString "'") 1573 :: .str (Str.ofString "(") 1576 :: .str (Str.ofString ")") 1579 :: .str (Str.ofString "*") 1582 :: .str (Str.ofString "+") 1585 :: .str (Str.ofString ",") 1588 :: .str (Str.ofString "-") 1591 :: .str (Str.ofString ".") 1594 :: .str (Str.ofString "/") 1597 :: .str (Str.ofString "0") 1600 :: .str (Str.ofString "1") 1603 :: .str (Str.ofString "2") 1606 :: .str (Str.ofString "3") 1609 :: .str (Str.ofString "4") 1612 :: .str (Str.ofString "5") 1615 :: .str (Str.ofString "6") 1618 :: .str (Str.ofString "7") 1621 :: .str (Str.ofString "8") 1624 :: .str (Str.ofString "9") 1627 :: .str (Str.ofString ":") 1630 :: .str (Str.ofString ";") 1633 :: .str (Str.ofString "<") 1636 :: .str (Str.ofString "=3D") 543 :: .str (Str.ofString ">") 1639 :: .str (Str.ofString "?") 1642 :: .str (Str.ofString "@") 1645 :: .str (Str.ofString "A") 1648 :: .str (Str.ofString "B") 1651 :: .str (Str.ofString "C") 1654 :: .str (Str.ofString "D") 1657 :: .str (Str.ofString "E") 1660 :: .str (Str.ofString "F") 1663 :: .str (Str.ofString "G") 1666 :: .str (Str.ofString "H") 1669 :: .str (Str.ofString "I") 1672 :: .str (Str.ofString "J") 1675 :: .str (Str.ofString "K") 1678 :: .str (Str.ofString "L") 1681 :: .str (Str.ofString "M") 1684 :: .str (Str.ofString "N") 1687 :: .str (Str.ofString "O") 1690 :: .str (Str.ofString "P") 1693 :: .str (Str.ofString "Q") 1696 :: .str (Str.ofString "R") 1699 :: .str (Str.ofString "S") 1702 :: .str (Str.ofString "T") 1705 :: .str (Str.ofString "U") 1708 :: .str (Str.ofString "V") 1711 :: .str (Str.ofString "W") 1714 :: .str (Str.ofString "X") 1717 :: .str (Str.ofString "Y") 1720 :: .str (Str.ofString "Z") 1723 :: .str (Str.ofString "[") 1726 :: .str (Str.ofString "\\") 1729 :: .str (Str.ofString "]") 1732 :: .str (Str.ofString "^") 1735 :: .str (Str.ofString "_") 1738 :: .str (Str.ofString "`") 1741 :: .str (Str.ofString "a") 1744 :: .str (Str.ofString "b") 1747 :: .str (Str.ofString "c") 1750 :: .str (Str.ofString "d") 1753 :: .str (Str.ofString "e") 1756 :: .str (Str.ofString "f") 1759 :: .str (Str.ofString "g") 1762 :: .str (Str.ofString "h") 1765 :: .str (Str.ofString "i") 1768 :: .str (Str.ofString "j") 1771 :: .str (Str.ofString "k") 1774 :: .str (Str.ofString "l") 1777 :: .str (Str.ofString "m") 1780 :: .str (Str.ofString "n") 1783 :: .str (Str.ofString "o") 1786 :: .str (Str.ofString "p") 1789 :: .str (Str.ofString "q") 1792 :: .str (Str.ofString "r") 1795 :: .str (Str.ofString "s") 1798 :: .str (Str.ofString "t") 1801 :: .str (Str.ofString "u") 1804 :: .str (Str.ofString "v") 1807 :: .str (Str.ofString "w") 1810 :: .str (Str.ofString "x") 1813 :: .str (Str.ofString "y") 1816 :: .str (Str.ofString "z") 1819 :: .str (Str.ofString "{") 1822 :: .str (Str.ofString "|") 1825 :: .str (Str.ofString "}") 1828 :: .str (Str.ofString "~") 1831 :: .str (Str.ofString "=7F") 807 :: .str (Str.ofString "=80") 811 :: .str (Str.ofString "=81") 815 :: .str (Str.ofString "=82") 819 :: .str (Str.ofString "=83") 823 :: .str (Str.ofString "=84") 827 :: .str (Str.ofString "=85") 831 :: .str (Str.ofString "=86") 835 :: .str (Str.ofString "=87") 839 :: .str (Str.ofString "=88") 843 :: .str (Str.ofString "=89") 847 :: .str (Str.ofString "=8A") 851 :: .str (Str.ofString "=8B") 855 :: .str (Str.ofString "=8C") 859 :: .str (Str.ofString "=8D") 863 :: .str (Str.ofString "=8E") 867 :: .str (Str.ofString "=8F") 871 :: .str (Str.ofString "=90") 875 :: .str (Str.ofString "=91") 879 :: .str (Str.ofString "=92") 883 :: .str (Str.ofString "=93") 887 :: .str (Str.ofString "=94") 891 :: .str (Str.ofString "=95") 895 :: .str (Str.ofString "=96") 899 :: .str (Str.ofString "=97") 903 :: .str (Str.ofString "=98") 907 :: .str (Str.ofString "=99") 911 :: .str (Str.ofString "=9A") 915 :: .str (Str.ofString "=9B") 919 :: .str (Str.ofString "=9C") 923 :: .str (Str.ofString "=9D") 927 :: .str (Str.ofString "=9E") 931 :: .str (Str.ofString "=9F") 935 :: .str (Str.ofString "=A0") 939 :: .str (Str.ofString "=A1") 943 :: .str (Str.ofString "=A2") 947 :: .str (Str.ofString "=A3") 951 :: .str (Str.ofString "=A4") 955 :: .str (Str.ofString "=A5") 959 :: .str (Str.ofString "=A6") 963 :: .str (Str.ofString "=A7") 967 :: .str (Str.ofString "=A8") 971 :: .str (Str.ofString "=A9") 975 :: .str (Str.ofString "=AA") 979 :: .str (Str.ofString "=AB") 983 :: .str (Str.ofString "=AC") 987 :: .str (Str.ofString "=AD") 991 :: .str (Str.ofString "=AE") 995 :: .str (Str.ofString "=AF") 999 :: .str (Str.ofString "=B0") 1003 :: .str (Str.ofString "=B1") 1007 :: .str (Str.ofString "=B2") 1011 :: .str (Str.ofString "=B3") 1015 :: .str (Str.ofString "=B4") 1019 :: .str (Str.ofString "=B5") 1023 :: .str (Str.ofString "=B6") 1027 :: .str (Str.ofString "=B7") 1031 :: .str (Str.ofString "=B8") 1035 :: .str (Str.ofString "=B9") 1039 :: .str (Str.ofString "=BA") 1043 :: .str (Str.ofString "=BB") 1047 :: .str (Str.ofString "=BC") 1051 :: .str (Str.ofString "=BD") 1055 :: .str (Str.ofString "=BE") 1059 :: .str (Str.ofString "=BF") 1063 :: .str (Str.ofString "=C0") 1067 :: .str (Str.ofString "=C1") 1071 :: .str (Str.ofString "=C2") 1075 :: .str (Str.ofString "=C3") 1079 :: .str (Str.ofString "=C4") 1083 :: .str (Str.ofString "=C5") 1087 :: .str (Str.ofString "=C6") 1091 :: .str (Str.ofString "=C7") 1095 :: .str (Str.ofString "=C8") 1099 :: .str (Str.ofString "=C9") 1103 :: .str (Str.ofString "=CA") 1107 :: .str (Str.ofString "=CB") 1111 :: .str (Str.ofString "=CC") 1115 :: .str (Str.ofString "=CD") 1119 :: .str (Str.ofString "=CE") 1123 :: .str (Str.ofString "=CF") 1127 :: .str (Str.ofString "=D0") 1131 :: .str (Str.ofString "=D1") 1135 :: .str (Str.ofString "=D2") 1139 :: .str (Str.ofString "=D3") 1143 :: .str (Str.ofString "=D4") 1147 :: .str (Str.ofString "=D5") 1151 :: .str (Str.ofString "=D6") 1155 :: .str (Str.ofString "=D7") 1159 :: .str (Str.ofString "=D8") 1163 :: .str (Str.ofString "=D9") 1167 :: .str (Str.ofString "=DA") 1171 :: .str (Str.ofString "=DB") 1175 :: .str (Str.ofString "=DC") 1179 :: .str (Str.ofString "=DD") 1183 :: .str (Str.ofString "=DE") 1187 :: .str (Str.ofString "=DF") 1191 :: .str (Str.ofString "=E0") 1195 :: .str (Str.ofString "=E1") 1199 :: .str (Str.ofString "=E2") 1203 :: .str (Str.ofString "=E3") 1207 :: .str (Str.ofString "=E4") 1211 :: .str (Str.ofString "=E5") 1215 :: .str (Str.ofString "=E6") 1219 :: .str (Str.ofString "=E7") 1223 :: .str (Str.ofString "=E8") 1227 :: .str (Str.ofString "=E9") 1231 :: .str (Str.ofString "=EA") 1235 :: .str (Str.ofString "=EB") 1239 :: .str (Str.ofString "=EC") 1243 :: .str (Str.ofString "=ED") 1247 :: .str (Str.ofString "=EE") 1251 :: .str (Str.ofString "=EF") 1255 :: .str (Str.ofString "=F0") 1259 :: .str (Str.ofString "=F1") 1263 :: .str (Str.ofString "=F2") 1267 :: .str (Str.ofString "=F3") 1271 :: .str (Str.ofString "=F4") 1275 :: .str (Str.ofString "=F5") 1279 :: .str (Str.ofString "=F6") 1283 :: .str (Str.ofString "=F7") 1287 :: .str (Str.ofString "=F8") 1291 :: .str (Str.ofString "=F9") 1295 :: .str (Str.ofString "=FA") 1299 :: .str (Str.ofString "=FB") 1303 :: .str (Str.ofString "=FC") 1307 :: .str (Str.ofString "=FD") 1311 :: .str (Str.ofString "=FE") 1315 :: .str (Str.ofString "=FF") 1319 :: [])) 0, #[]⟩
noncomputable def ob_71 (P : Params) : Obj := ⟨.type "bytes_iterator", none, .fields #[.none, .int 2 0], #[]⟩
noncomputable def ob_72 (P : Params) : Obj := ⟨.type "tuple", none, .seq #[] 0, #[]⟩
noncomputable def ob_73 (P : Params) : Obj := ⟨.type "StopIteration", none, .fields #[.ref 72, .none, .none, .none, .bool false, .none], #[]⟩
noncomputable def ob_74 (P : Params) : Obj := ⟨.type "tuple", none, .seq #[.int 76 1857, .str (Str.ofString "\n") 291] 0, #[]⟩
noncomputable def ob_75 (P : Params) : Obj := ⟨.type "tuple", none, .seq #[] 0, #[]⟩
noncomputable def ob_76 (P : Params) : Obj := ⟨.none, none, .fields #[], #[]⟩
noncomputable def ob_77 (P : Params) : Obj := ⟨.type "tuple", none, .seq #[.str (Str.ofString "body") 1861, .str (Str.ofString "maxlinelen") 1862, .str (Str.ofString "eol") 1863, .str (Str.ofString "soft_break") 1864, .str (Str.ofString "maxlinelen1") 1865, .str (Str.ofString "encoded_body") 1866, .str (Str.ofString "append") 1867, .str (Str.ofString "line") 1868, .str (Str.ofString "start") 1869, .str (Str.ofString "laststart") 1870, .str (Str.ofString "stop") 1871, .str (Str.ofString "room") 1872, .str (Str.ofString "q") 1873] 0, #[]⟩
noncomputable def ob_78 (P : Params) : Obj := ⟨.type "tuple", none, .seq #[] 0, #[]⟩
noncomputable def ob_79 (P : Params) : Obj := ⟨.none, none, .func { name := Str.ofString "body_encode", qualname := Str.ofString "body_encode", params := litA (s := (st 20)) rfl, body := .stmts (litB (s := (st 20)) rfl), scope := litS (s := (st 20)) rfl, globals := 0, closure := [], defaults := .none, kwdefaults := .none, doc := .none, pyModule := .none, annotations := none, code := .none, closureTuple := .none, builtins := 0 }, #[]⟩
noncomputable def ob_80 (P : Params) : Obj := ⟨.type "code", none, .fields #[.str (Str.ofString "body_encode") 1858, .str (Str.ofString "body_encode") 1859, .str (Str.ofString "/claim/cut.py") 1860, .int 29 0, .int 3 0, .int 0 0, .int 0 0, .int 3 0, .ref 75, .bool true, .int 276 0, .ref 76, .none, .ref 77, .ref 78, .ref 79, .int 1874 0, .int 29 0, .str (Str.ofString "/claim/cut.py") 1875], #[]⟩
noncomputable def ob_81 (P : Params) : Obj := ⟨.type "function", none, .func { name := Str.ofString "body_encode", qualname := Str.ofString "body_encode", params := litA (s := (st 20)) rfl, body := .stmts (litB (s := (st 20)) rfl), scope := litS (s := (st 20)) rfl, globals := 3, closure := [], defaults := .ref 74, kwdefaults := .none, doc := .none, pyModule := .str (Str.ofString "cpy313.email.quoprimime") 1336, annotations := none, code := .ref 80, closureTuple := .none, builtins := 0 }, #[]⟩
noncomputable def ob_82 (P : Params) : Obj := ⟨.type "tuple", none, .seq #[.str (Str.ofString "\n") 291] 0, #[]⟩
noncomputable def ob_83 (P : Params) : Obj := ⟨.type "tuple", none, .seq #[] 0, #[]⟩
noncomputable def ob_84 (P : Params) : Obj := ⟨.none, none, .fields #[], #[]⟩
noncomputable def ob_85 (P : Params) : Obj := ⟨.type "tuple", none, .seq #[.str (Str.ofString "encoded") 1880, .str (Str.ofString "eol") 1881, .str (Str.ofString "decoded") 1882, .str (Str.ofString "line") 1883, .str (Str.ofString "i") 1884, .str (Str.ofString "n") 1885, .str (Str.ofString "c") 1886] 0, #[]⟩
noncomputable def ob_86 (P : Params) : Obj := ⟨.type "tuple", none, .seq #[] 0, #[]⟩
noncomputable def ob_87 (P : Params) : Obj := ⟨.none, none, .func { name := Str.ofString "decode", qualname := Str.ofString "decode", params := litA (s := (st 21)) rfl, body := .stmts (litB (s := (st 21)) rfl), scope := litS (s := (st 21)) rfl, globals := 0, closure := [], defaults := .none, kwdefaults := .none, doc := .none, pyModule := .none, annotations := none, code := .none, closureTuple := .none, builtins := 0 }, #[]⟩
noncomputable def ob_88 (P : Params) : Obj := ⟨.type "code", none, .fields #[.str (Str.ofString "decode") 1877, .str (Str.ofString "decode") 1878, .str (Str.ofString "/claim/cut.py") 1879, .int 67 0, .int 2 0, .int 0 0, .int 0 0, .int 3 0, .ref 83, .bool true, .int 276 0, .ref 84, .none, .ref 85, .ref 86, .ref 87, .int 1887 0, .int 67 0, .str (Str.ofString "/claim/cut.py") 1888], #[]⟩
noncomputable def ob_89 (P : Params) : Obj := ⟨.type "function", none, .func { name := Str.ofString "decode", qualname := Str.ofString "decode", params := litA (s := (st 21)) rfl, body := .stmts (litB (s := (st 21)) rfl), scope := litS (s := (st 21)) rfl, globals := 3, closure := [], defaults := .ref 82, kwdefaults := .none, doc := .none, pyModule := .str (Str.ofString "cpy313.email.quoprimime") 1336, annotations := none, code := .ref 88, closureTuple := .none, builtins := 0 }, #[]⟩
noncomputable def ob_90 (P : Params) : Obj := ⟨.type "list", none, .seq #[.int 14 1895, .int 14 1896, .int 4 1897, .int 1 1898, .int 1 1899, .int 9 1900, .int 0 1901, .int 64 1902, .int 0 1903, .int 1342177280 1904, .int 0 1905, .int 0 1906, .int 0 1907, .int 0 1908, .int 0 1909, .int 17 1910, .int 0 1911, .int 13 1912, .int 11 1913, .int 9 1914, .int 0 1915, .int 64 1916, .int 0 1917, .int 1342177280 1918, .int 0 1919, .int 0 1920, .int 0 1921, .int 0 1922, .int 0 1923, .int 17 1924, .int 1 1925, .int 1 1926] 0, #[]⟩
noncomputable def ob_91 (P : Params) : Obj := ⟨.type "dict", none, .dict #[] 0, #[]⟩
noncomputable def ob_92 (P : Params) : Obj := ⟨.type "tuple", none, .seq #[.none, .none] 0, #[]⟩
noncomputable def ob_93 (P : Params) : Obj := ⟨.type "tuple", none, .seq #[.int 14 0, .int 14 0, .int 4 0, .int 1 0, .int 1 0, .int 9 0, .int 0 0, .int 64 0, .int 0 0, .int 1342177280 0, .int 0 0, .int 0 0, .int 0 0, .int 0 0, .int 0 0, .int 17 0, .int 0 0, .int 13 0, .int 11 0, .int 9 0, .int 0 0, .int 64 0, .int 0 0, .int 1342177280 0, .int 0 0, .int 0 0, .int 0 0, .int 0 0, .int 0 0, .int 17 0, .int 1 0, .int 1 0] 0, #[]⟩
noncomputable def ob_94 (P : Params) : Obj := ⟨.type "re.Pattern", none, .fields #[.str (Str.ofString "([&~|])") 1893, .int 32 1928, .int 1 0, .none, .none, .ref 93, .int 0 0], #[]⟩
noncomputable def ob_95 (P : Params) : Obj := ⟨.type "tuple", none, .seq #[] 0, #[]⟩
noncomputable def ob_96 (P : Params) : Obj := ⟨.none, none, .fields #[], #[]⟩
noncomputable def ob_97 (P : Params) : Obj := ⟨.type "tuple", none, .seq #[.str (Str.ofString "pat") 1933, .str (Str.ofString "STAR") 1934, .str (Str.ofString "parts") 1935] 0, #[]⟩
noncomputable def ob_98 (P : Params) : Obj := ⟨.type "tuple", none, .seq #[] 0, #[]⟩
noncomputable def ob_99 (P : Params) : Obj := ⟨.none, none, .func { name := Str.ofString "translate", qualname := Str.ofString "translate", params := litA (s := (st 24)) rfl, body := .stmts (litB (s := (st 24)) rfl), scope := litS (s := (st 24)) rfl, globals := 0, closure := [], defaults := .none, kwdefaults := .none, doc := .none, pyModule := .none, annotations := none, code := .none, closureTuple := .none, builtins := 0 }, #[]⟩
noncomputable def ob_100 (P : Params) : Obj := ⟨.type "code", none, .fields #[.str (Str.ofString "translate") 1930, .str (Str.ofString "translate") 1931, .str (Str.ofString "/claim/cut.py") 1932, .int 99 0, .int 1 0, .int 0 0, .int 0 0, .int 3 0, .ref 95, .bool true, .int 276 0, .ref 96, .none, .ref 97, .ref 98, .ref 99, .int 1936 0, .int 99 0, .str (Str.ofString "/claim/cut.py") 1937], #[]⟩
noncomputable def ob_101 (P : Params) : Obj := ⟨.type "function", none, .func { name := Str.ofString "translate", qualname := Str.ofString "translate", params := litA (s := (st 24)) rfl, body := .stmts (litB (s := (st 24)) rfl), scope := litS (s := (st 24)) rfl, globals := 3, closure := [], defaults := .none, kwdefaults := .none, doc := .none, pyModule := .str (Str.ofString "cpy313.fnmatch") 1890, annotations := none, code := .ref 100, closureTuple := .none, builtins := 0 }, #[]⟩
noncomputable def ob_102 (P : Params) : Obj := ⟨.type "bytes_iterator", none, .fields #[.none, .int 24 0], #[]⟩
noncomputable def ob_103 (P : Params) : Obj := ⟨.type "dict", none, .dict #[⟨40, .int 40 1942, .str (Str.ofString "\\(") 1946⟩, ⟨41, .int 41 1948, .str (Str.ofString "\\)") 1952⟩, ⟨91, .int 91 1954, .str (Str.ofString "\\[") 1958⟩, ⟨93, .int 93 1960, .str (Str.ofString "\\]") 1964⟩, ⟨123, .int 123 1966, .str (Str.ofString "\\{") 1970⟩, ⟨125, .int 125 1972, .str (Str.ofString "\\}") 1976⟩, ⟨63, .int 63 1978, .str (Str.ofString "\\?") 1982⟩, ⟨42, .int 42 1984, .str (Str.ofString "\\*") 1988⟩, ⟨43, .int 43 1990, .str (Str.ofString "\\+") 1994⟩, ⟨45, .int 45 1996, .str (Str.ofString "\\-") 2000⟩, ⟨124, .int 124 2002, .str (Str.ofString "\\|") 2006⟩, ⟨94, .int 94 2008, .str (Str.ofString "\\^") 2012⟩, ⟨36, .int 36 2014, .str (Str.ofString "\\$") 2018⟩, ⟨92, .int 92 2020, .str (Str.ofString "\\\\") 2024⟩, ⟨46, .int 46 2026, .str (Str.ofString "\\.") 2030⟩, ⟨38, .int 38 2032, .str (Str.ofString "\\&") 2036⟩, ⟨126, .int 126 2038, .str (Str.ofString "\\~") 2042⟩, ⟨35, .int 35 2044, .str (Str.ofString "\\#") 2048⟩, ⟨32, .int 32 2050, .str (Str.ofString "\\ ") 2054⟩, ⟨9, .int 9 2056, .str (Str.ofString "\\\t") 2060⟩, ⟨10, .int 10 2062, .str (Str.ofString "\\\n") 2066⟩, ⟨13, .int 13 2068, .str (Str.ofString "\\\x0d") 2072⟩, ⟨11, .int 11 2074, .str (Str.ofString "\\\x0b") 2078⟩, ⟨12, .int 12 2080, .str (Str.ofString "\\\x0c") 2084⟩] 24, #[]⟩
noncomputable def ob_104 (P : Params) : Obj := ⟨.type "dict", none, .dict #[] 2, #[]⟩
noncomputable def ob_105 (P : Params) : Obj := ⟨.type "tuple", none, .seq #[] 0, #[]⟩
noncomputable def ob_106 (P : Params) : Obj := ⟨.type "StopIteration", none, .fields #[.ref 105, .none, .none, .none, .bool false, .none], #[]⟩
noncomputable def ob_107 (P : Params) : Obj := ⟨.type "tuple", none, .seq #[] 0, #[]⟩
noncomputable def ob_108 (P : Params) : Obj := ⟨.none, none, .fields #[], #[]⟩
noncomputable def ob_109 (P : Params) : Obj := ⟨.type "tuple", none, .seq #[.str (Str.ofString "pattern") 2090] 0, #[]⟩
noncomputable def ob_110 (P : Params) : Obj := ⟨.type "tuple", none, .seq #[] 0, #[]⟩
noncomputable def ob_111 (P : Params) : Obj := ⟨.none, none, .func { name := Str.ofString "escape", qualname := Str.ofString "escape", params := litA (s := (st 27)) rfl, body := .stmts (litB (s := (st 27)) rfl), scope := litS (s := (st 27)) rfl, globals := 0, closure := [], defaults := .none, kwdefaults := .none, doc := .none, pyModule := .none, annotations := none, code := .none, closureTuple := .none, builtins := 0 }, #[]⟩
noncomputable def ob_112 (P : Params) : Obj := ⟨.type "code", none, .fields #[.str (Str.ofString "escape") 2087, .str (Str.ofString "escape") 2088, .str (Str.ofString "/claim/cut.py") 2089, .int 105 0, .int 1 0, .int 0 0, .int 0 0, .int 3 0, .ref 107, .bool true, .int 276 0, .ref 108, .none, .ref 109, .ref 110, .ref 111, .int 2091 0, .int 105 0, .str (Str.ofString "/claim/cut.py") 2092], #[]⟩
noncomputable def ob_113 (P : Params) : Obj := ⟨.type "function", none, .func { name := Str.ofString "escape", qualname := Str.ofString "escape", params := litA (s := (st 27)) rfl, body := .stmts (litB (s := (st 27)) rfl), scope := litS (s := (st 27)) rfl, globals := 3, closure := [], defaults := .none, kwdefaults := .none, doc := .none, pyModule := .str (Str.ofString "re") 1939, annotations := none, code := .ref 112, closureTuple := .none, builtins := 0 }, #[]⟩
noncomputable def ob_114 (P : Params) : Obj := ⟨.type "tuple", none, .seq #[] 0, #[]⟩
noncomputable def ob_115 (P : Params) : Obj := ⟨.none, none, .fields #[], #[]⟩
noncomputable def ob_116 (P : Params) : Obj := ⟨.type "tuple", none, .seq #[.str (Str.ofString "pat") 2099, .str (Str.ofString "STAR") 2100, .str (Str.ofString "QUESTION_MARK") 2101, .str (Str.ofString "res") 2102, .str (Str.ofString "add") 2103, .str (Str.ofString "i") 2104, .str (Str.ofString "n") 2105, .str (Str.ofString "c") 2106, .str (Str.ofString "j") 2107, .str (Str.ofString "stuff") 2108, .str (Str.ofString "chunks") 2109, .str (Str.ofString "k") 2110, .str (Str.ofString "chunk") 2111] 0, #[]⟩
noncomputable def ob_117 (P : Params) : Obj := ⟨.type "tuple", none, .seq #[] 0, #[]⟩
noncomputable def ob_118 (P : Params) : Obj := ⟨.none, none, .func { name := Str.ofString "_translate", qualname := Str.ofString "_translate", params := litA (s := (st 29)) rfl, body := .stmts (litB (s := (st 29)) rfl), scope := litS (s := (st 29)) rfl, globals := 0, closure := [], defaults := .none, kwdefaults := .none, doc := .none, pyModule := .none, annotations := none, code := .none, closureTuple := .none, builtins := 0 }, #[]⟩
noncomputable def ob_119 (P : Params) : Obj := ⟨.type "code", none, .fields #[.str (Str.ofString "_translate") 2096, .str (Str.ofString "_translate") 2097, .str (Str.ofString "/claim/cut.py") 2098, .int 112 0, .int 3 0, .int 0 0, .int 0 0, .int 3 0, .ref 114, .bool true, .int 276 0, .ref 115, .none, .ref 116, .ref 117, .ref 118, .int 2112 0, .int 112 0, .str (Str.ofString "/claim/cut.py") 2113], #[]⟩
noncomputable def ob_120 (P : Params) : Obj := ⟨.type "function", none, .func { name := Str.ofString "_translate", qualname := Str.ofString "_translate", params := litA (s := (st 29)) rfl, body := .stmts (litB (s := (st 29)) rfl), scope := litS (s := (st 29)) rfl, globals := 3, closure := [], defaults := .none, kwdefaults := .none, doc := .none, pyModule := .str (Str.ofString "cpy313.fnmatch") 2094, annotations := none, code := .ref 119, closureTuple := .none, builtins := 0 }, #[]⟩
noncomputable def ob_121 (P : Params) : Obj := ⟨.type "tuple", none, .seq #[] 0, #[]⟩
noncomputable def ob_122 (P : Params) : Obj := ⟨.none, none, .fields #[], #[]⟩
noncomputable def ob_123 (P : Params) : Obj := ⟨.type "tuple", none, .seq #[.str (Str.ofString "inp") 2118, .str (Str.ofString "STAR") 2119, .str (Str.ofString "res") 2120, .str (Str.ofString "add") 2121, .str (Str.ofString "i") 2122, .str (Str.ofString "n") 2123, .str (Str.ofString "fixed") 2124] 0, #[]⟩
noncomputable def ob_124 (P : Params) : Obj := ⟨.type "tuple", none, .seq #[] 0, #[]⟩
noncomputable def ob_125 (P : Params) : Obj := ⟨.none, none, .func { name := Str.ofString "_join_translated_parts", qualname := Str.ofString "_join_translated_parts", params := litA (s := (st 30)) rfl, body := .stmts (litB (s := (st 30)) rfl), scope := litS (s := (st 30)) rfl, globals := 0, closure := [], defaults := .none, kwdefaults := .none, doc := .none, pyModule := .none, annotations := none, code := .none, closureTuple := .none, builtins := 0 }, #[]⟩
noncomputable def ob_126 (P : Params) : Obj := ⟨.type "code", none, .fields #[.str (Str.ofString "_join_translated_parts") 2115, .str (Str.ofString "_join_translated_parts") 2116, .str (Str.ofString "/claim/cut.py") 2117, .int 174 0, .int 2 0, .int 0 0, .int 0 0, .int 3 0, .ref 121, .bool true, .int 276 0, .ref 122, .none, .ref 123, .ref 124, .ref 125, .int 2125 0, .int 174 0, .str (Str.ofString "/claim/cut.py") 2126], #[]⟩
noncomputable def ob_127 (P : Params) : Obj := ⟨.type "function", none, .func { name := Str.ofString "_join_translated_parts", qualname := Str.ofString "_join_translated_parts", params := litA (s := (st 30)) rfl, body := .stmts (litB (s := (st 30)) rfl), scope := litS (s := (st 30)) rfl, globals := 3, closure := [], defaults := .none, kwdefaults := .none, doc := .none, pyModule := .str (Str.ofString "cpy313.fnmatch") 2094, annotations := none, code := .ref 126, closureTuple := .none, builtins := 0 }, #[]⟩
noncomputable def ob_128 (P : Params) : Obj := ⟨.type "tuple", none, .seq #[] 0, #[]⟩
noncomputable def ob_129 (P : Params) : Obj := ⟨.none, none, .fields #[], #[]⟩
noncomputable def ob_130 (P : Params) : Obj := ⟨.type "tuple", none, .seq #[.str (Str.ofString "x") 2133, .str (Str.ofString "what") 2134, .str (Str.ofString "kind") 2135] 0, #[]⟩
noncomputable def ob_131 (P : Params) : Obj := ⟨.type "tuple", none, .seq #[] 0, #[]⟩
noncomputable def ob_132 (P : Params) : Obj := ⟨.none, none, .func { name := Str.ofString "_plain_name", qualname := Str.ofString "_plain_name", params := litA (s := (st 32)) rfl, body := .stmts (litB (s := (st 32)) rfl), scope := litS (s := (st 32)) rfl, globals := 0, closure := [], defaults := .none, kwdefaults := .none, doc := .none, pyModule := .none, annotations := none, code := .none, closureTuple := .none, builtins := 0 }, #[]⟩
noncomputable def ob_133 (P : Params) : Obj := ⟨.type "code", none, .fields #[.str (Str.ofString "_plain_name") 2130, .str (Str.ofString "_plain_name") 2131, .str (Str.ofString "/claim/cut.py") 2132, .int 202 0, .int 2 0, .int 0 0, .int 0 0, .int 3 0, .ref 128, .bool true, .int 276 0, .ref 129, .none, .ref 130, .ref 131, .ref 132, .int 2136 0, .int 202 0, .str (Str.ofString "/claim/cut.py") 2137], #[]⟩
noncomputable def ob_134 (P : Params) : Obj := ⟨.type "function", none, .func { name := Str.ofString "_plain_name", qualname := Str.ofString "_plain_name", params := litA (s := (st 32)) rfl, body := .stmts (litB (s := (st 32)) rfl), scope := litS (s := (st 32)) rfl, globals := 3, closure := [], defaults := .none, kwdefaults := .none, doc := .none, pyModule := .str (Str.ofString "os") 2128, annotations := none, code := .ref 133, closureTuple := .none, builtins := 0 }, #[]⟩
noncomputable def ob_135 (P : Params) : Obj := ⟨.type "tuple", none, .seq #[.type "type"] 0, #[]⟩
noncomputable def ob_136 (P : Params) : Obj := ⟨.type "builtin_function_or_method", none, .fields #[.builtin "type.__prepare__", .type "type"], #[]⟩
noncomputable def ob_137 (P : Params) : Obj := ⟨.type "dict", none, .dict #[⟨PyData.keyHash P (Str.ofString "__module__"), .str (Str.ofString "__module__") 2148, .str (Str.ofString "abc") 2139⟩, ⟨PyData.keyHash P (Str.ofString "__qualname__"), .str (Str.ofString "__qualname__") 2150, .str (Str.ofString "ABCMeta") 2149⟩, ⟨PyData.keyHash P (Str.ofString "__firstlineno__"), .str (Str.ofString "__firstlineno__") 2152, .int 208 2151⟩, ⟨PyData.keyHash P (Str.ofString "register"), .str (Str.ofString "register") 2160, .ref 148⟩, ⟨PyData.keyHash P (Str.ofString "__static_attributes__"), .str (Str.ofString "__static_attributes__") 2161, .ref 149⟩] 5, #[]⟩
noncomputable def ob_138 (P : Params) : Obj := ⟨.type "tuple", none, .seq #[] 0, #[]⟩
noncomputable def ob_139 (P : Params) : Obj := ⟨.none, none, .fields #[.int 210 0, .int 4 0, .ref 147], #[]⟩
noncomputable def ob_140 (P : Params) : Obj := ⟨.type "code", none, .fields #[.str (Str.ofString "ABCMeta") 2143, .str (Str.ofString "ABCMeta") 2144, .str (Str.ofString "/claim/cut.py") 2145, .int 208 0, .int 0 0, .int 0 0, .int 0 0, .int 0 0, .ref 138, .bool false, .int 276 0, .ref 139, .none, .none, .none, .none, .int 2146 0, .int 208 0, .str (Str.ofString "/claim/cut.py") 2147], #[]⟩
noncomputable def ob_141 (P : Params) : Obj := ⟨.type "frame", none, .plain, #[(some (.ref 140)), (some (.ref 3)), (some (.ref 137)), none, (some (.str (Str.ofString "abc") 2139)), none, (some (.ref 0))]⟩
noncomputable def ob_142 (P : Params) : Obj := ⟨.type "tuple", none, .seq #[] 0, #[]⟩
noncomputable def ob_143 (P : Params) : Obj := ⟨.none, none, .fields #[], #[]⟩
noncomputable def ob_144 (P : Params) : Obj := ⟨.type "tuple", none, .seq #[.str (Str.ofString "cls") 2156, .str (Str.ofString "subclass") 2157] 0, #[]⟩
noncomputable def ob_145 (P : Params) : Obj := ⟨.type "tuple", none, .seq #[] 0, #[]⟩
noncomputable def ob_146 (P : Params) : Obj := ⟨.none, none, .func { name := Str.ofString "register", qualname := Str.ofString "ABCMeta.register", params := litA (s := (mem (st 34) 0)) rfl, body := .stmts (litB (s := (mem (st 34) 0)) rfl), scope := litS (s := (mem (st 34) 0)) rfl, globals := 0, closure := [], defaults := .none, kwdefaults := .none, doc := .none, pyModule := .none, annotations := none, code := .none, closureTuple := .none, builtins := 0 }, #[]⟩
noncomputable def ob_147 (P : Params) : Obj := ⟨.type "code", none, .fields #[.str (Str.ofString "register") 2153, .str (Str.ofString "ABCMeta.register") 2154, .str (Str.ofString "/claim/cut.py") 2155, .int 210 0, .int 2 0, .int 0 0, .int 0 0, .int 3 0, .ref 142, .bool true, .int 276 0, .ref 143, .none, .ref 144, .ref 145, .ref 146, .int 2158 0, .int 210 0, .str (Str.ofString "/claim/cut.py") 2159], #[]⟩
noncomputable def ob_148 (P : Params) : Obj := ⟨.type "function", none, .func { name := Str.ofString "register", qualname := Str.ofString "ABCMeta.register", params := litA (s := (mem (st 34) 0)) rfl, body := .stmts (litB (s := (mem (st 34) 0)) rfl), scope := litS (s := (mem (st 34) 0)) rfl, globals := 3, closure := [], defaults := .none, kwdefaults := .none, doc := .none, pyModule := .str (Str.ofString "abc") 2139, annotations := none, code := .ref 147, closureTuple := .none, builtins := 0 }, #[]⟩
noncomputable def ob_149 (P : Params) : Obj := ⟨.type "tuple", none, .seq #[] 0, #[]⟩
noncomputable def ob_150 (P : Params) : Obj := ⟨.type "dict", none, .dict #[⟨PyData.keyHash P (Str.ofString "__module__"), .str (Str.ofString "__module__") 2148, .str (Str.ofString "abc") 2139⟩, ⟨PyData.keyHash P (Str.ofString "__firstlineno__"), .str (Str.ofString "__firstlineno__") 2152, .int 208 2151⟩, ⟨PyData.keyHash P (Str.ofString "register"), .str (Str.ofString "register") 2160, .ref 148⟩, ⟨PyData.keyHash P (Str.ofString "__static_attributes__"), .str (Str.ofString "__static_attributes__") 2161, .ref 149⟩, ⟨PyData.keyHash P (Str.ofString "__doc__"), .str (Str.ofString "__doc__") 2162, .none⟩] 2, #[]⟩
noncomputable def ob_151 (P : Params) : Obj := ⟨.type "type", none, .cls { name := Str.ofString "ABCMeta", bases := [.type "type"], mro := [.ref 151, .type "type", .type "object"], ns := 150, qualname := Str.ofString "ABCMeta", hasDict := true, slotNames := [], subclasses := [.ref 184], abstract := false, collection := none, hasDel := false }, #[(some (.ref 135)), none, (some (.str (Str.ofString "ABCMeta") 2141)), (some (.str (Str.ofString "ABCMeta") 2149)), (some (.builtin "type.__new__")), (some (.bool true))]⟩
noncomputable def ob_152 (P : Params) : Obj := ⟨.type "super", none, .fields #[.ref 151, .ref 151, .ref 151], #[]⟩
noncomputable def ob_153 (P : Params) : Obj := ⟨.type "builtin_function_or_method", none, .fields #[.builtin "object.__init_subclass__", .ref 151], #[]⟩
noncomputable def ob_154 (P : Params) : Obj := ⟨.type "tuple", none, .seq #[.ref 151] 0, #[]⟩
noncomputable def ob_155 (P : Params) : Obj := ⟨.type "builtin_function_or_method", none, .fields #[.builtin "type.__prepare__", .type "type"], #[]⟩
noncomputable def ob_156 (P : Params) : Obj := ⟨.type "dict", none, .dict #[⟨PyData.keyHash P (Str.ofString "__module__"), .str (Str.ofString "__module__") 2174, .str (Str.ofString "collections.abc") 2165⟩, ⟨PyData.keyHash P (Str.ofString "__qualname__"), .str (Str.ofString "__qualname__") 2176, .str (Str.ofString "_ABCLike") 2175⟩, ⟨PyData.keyHash P (Str.ofString "__firstlineno__"), .str (Str.ofString "__firstlineno__") 2178, .int 213 2177⟩, ⟨PyData.keyHash P (Str.ofString "__instancecheck__"), .str (Str.ofString "__instancecheck__") 2187, .ref 167⟩, ⟨PyData.keyHash P (Str.ofString "__subclasscheck__"), .str (Str.ofString "__subclasscheck__") 2195, .ref 174⟩, ⟨PyData.keyHash P (Str.ofString "register"), .str (Str.ofString "register") 2203, .ref 181⟩, ⟨PyData.keyHash P (Str.ofString "__static_attributes__"), .str (Str.ofString "__static_attributes__") 2204, .ref 182⟩] 7, #[]⟩
noncomputable def ob_157 (P : Params) : Obj := ⟨.type "tuple", none, .seq #[] 0, #[]⟩
noncomputable def ob_158 (P : Params) : Obj := ⟨.none, none, .fields #[.int 215 0, .int 4 0, .ref 166, .int 221 0, .int 4 0, .ref 173, .int 226 0, .int 4 0, .ref 180], #[]⟩
noncomputable def ob_159 (P : Params) : Obj := ⟨.type "code", none, .fields #[.str (Str.ofString "_ABCLike") 2169, .str (Str.ofString "_ABCLike") 2170, .str (Str.ofString "/claim/cut.py") 2171, .int 213 0, .int 0 0, .int 0 0, .int 0 0, .int 0 0, .ref 157, .bool false, .int 276 0, .ref 158, .none, .none, .none, .none, .int 2172 0, .int 213 0, .str (Str.ofString "/claim/cut.py") 2173], #[]⟩
noncomputable def ob_160 (P : Params) : Obj := ⟨.type "frame", none, .plain, #[(some (.ref 159)), (some (.ref 3)), (some (.ref 156)), none, (some (.str (Str.ofString "collections.abc") 2165)), none, (some (.ref 0))]⟩
noncomputable def ob_161 (P : Params) : Obj := ⟨.type "tuple", none, .seq #[] 0, #[]⟩
noncomputable def ob_162 (P : Params) : Obj := ⟨.none, none, .fields #[], #[]⟩
noncomputable def ob_163 (P : Params) : Obj := ⟨.type "tuple", none, .seq #[.str (Str.ofString "cls") 2182, .str (Str.ofString "\x69nstance") 2183, .str (Str.ofString "C") 2184] 0, #[]⟩
noncomputable def ob_164 (P : Params) : Obj := ⟨.type "tuple", none, .seq #[] 0, #[]⟩
noncomputable def ob_165 (P : Params) : Obj := ⟨.none, none, .func { name := Str.ofString "__instancecheck__", qualname := Str.ofString "_ABCLike.__instancecheck__", params := litA (s := (mem (st 36) 0)) rfl, body := .stmts (litB (s := (mem (st 36) 0)) rfl), scope := litS (s := (mem (st 36) 0)) rfl, globals := 0, closure := [], defaults := .none, kwdefaults := .none, doc := .none, pyModule := .none, annotations := none, code := .none, closureTuple := .none, builtins := 0 }, #[]⟩
noncomputable def ob_166 (P : Params) : Obj := ⟨.type "code", none, .fields #[.str (Str.ofString "__instancecheck__") 2179, .str (Str.ofString "_ABCLike.__instancecheck__") 2180, .str (Str.ofString "/claim/cut.py") 2181, .int 215 0, .int 2 0, .int 0 0, .int 0 0, .int 3 0, .ref 161, .bool true, .int 276 0, .ref 162, .none, .ref 163, .ref 164, .ref 165, .int 2185 0, .int 215 0, .str (Str.ofString "/claim/cut.py") 2186], #[]⟩
noncomputable def ob_167 (P : Params) : Obj := ⟨.type "function", none, .func { name := Str.ofString "__instancecheck__", qualname := Str.ofString "_ABCLike.__instancecheck__", params := litA (s := (mem (st 36) 0)) rfl, body := .stmts (litB (s := (mem (st 36) 0)) rfl), scope := litS (s := (mem (st 36) 0)) rfl, globals := 3, closure := [], defaults := .none, kwdefaults := .none, doc := .none, pyModule := .str (Str.ofString "collections.abc") 2165, annotations := none, code := .ref 166, closureTuple := .none, builtins := 0 }, #[]⟩
noncomputable def ob_168 (P : Params) : Obj := ⟨.type "tuple", none, .seq #[] 0, #[]⟩
noncomputable def ob_169 (P : Params) : Obj := ⟨.none, none, .fields #[], #[]⟩
noncomputable def ob_170 (P : Params) : Obj := ⟨.type "tuple", none, .seq #[.str (Str.ofString "cls") 2191, .str (Str.ofString "C") 2192] 0, #[]⟩
noncomputable def ob_171 (P : Params) : Obj := ⟨.type "tuple", none, .seq #[] 0, #[]⟩
noncomputable def ob_172 (P : Params) : Obj := ⟨.none, none, .func { name := Str.ofString "__subclasscheck__", qualname := Str.ofString "_ABCLike.__subclasscheck__", params := litA (s := (mem (st 36) 1)) rfl, body := .stmts (litB (s := (mem (st 36) 1)) rfl), scope := litS (s := (mem (st 36) 1)) rfl, globals := 0, closure := [], defaults := .none, kwdefaults := .none, doc := .none, pyModule := .none, annotations := none, code := .none, closureTuple := .none, builtins := 0 }, #[]⟩
noncomputable def ob_173 (P : Params) : Obj := ⟨.type "code", none, .fields #[.str (Str.ofString "__subclasscheck__") 2188, .str (Str.ofString "_ABCLike.__subclasscheck__") 2189, .str (Str.ofString "/claim/cut.py") 2190, .int 221 0, .int 2 0, .int 0 0, .int 0 0, .int 3 0, .ref 168, .bool true, .int 276 0, .ref 169, .none, .ref 170, .ref 171, .ref 172, .int 2193 0, .int 221 0, .str (Str.ofString "/claim/cut.py") 2194], #[]⟩
noncomputable def ob_174 (P : Params) : Obj := ⟨.type "function", none, .func { name := Str.ofString "__subclasscheck__", qualname := Str.ofString "_ABCLike.__subclasscheck__", params := litA (s := (mem (st 36) 1)) rfl, body := .stmts (litB (s := (mem (st 36) 1)) rfl), scope := litS (s := (mem (st 36) 1)) rfl, globals := 3, closure := [], defaults := .none, kwdefaults := .none, doc := .none, pyModule := .str (Str.ofString "collections.abc") 2165, annotations := none, code := .ref 173, closureTuple := .none, builtins := 0 }, #[]⟩
noncomputable def ob_175 (P : Params) : Obj := ⟨.type "tuple", none, .seq #[] 0, #[]⟩
noncomputable def ob_176 (P : Params) : Obj := ⟨.none, none, .fields #[], #[]⟩
noncomputable def ob_177 (P : Params) : Obj := ⟨.type "tuple", none, .seq #[.str (Str.ofString "cls") 2199, .str (Str.ofString "subclass") 2200] 0, #[]⟩
noncomputable def ob_178 (P : Params) : Obj := ⟨.type "tuple", none, .seq #[] 0, #[]⟩
noncomputable def ob_179 (P : Params) : Obj := ⟨.none, none, .func { name := Str.ofString "register", qualname := Str.ofString "_ABCLike.register", params := litA (s := (mem (st 36) 2)) rfl, body := .stmts (litB (s := (mem (st 36) 2)) rfl), scope := litS (s := (mem (st 36) 2)) rfl, globals := 0, closure := [], defaults := .none, kwdefaults := .none, doc := .none, pyModule := .none, annotations := none, code := .none, closureTuple := .none, builtins := 0 }, #[]⟩
noncomputable def ob_180 (P : Params) : Obj := ⟨.type "code", none, .fields #[.str (Str.ofString "register") 2196, .str (Str.ofString "_ABCLike.register") 2197, .str (Str.ofString "/claim/cut.py") 2198, .int 226 0, .int 2 0, .int 0 0, .int 0 0, .int 3 0, .ref 175, .bool true, .int 276 0, .ref 176, .none, .ref 177, .ref 178, .ref 179, .int 2201 0, .int 226 0, .str (Str.ofString "/claim/cut.py") 2202], #[]⟩
noncomputable def ob_181 (P : Params) : Obj := ⟨.type "function", none, .func { name := Str.ofString "register", qualname := Str.ofString "_ABCLike.register", params := litA (s := (mem (st 36) 2)) rfl, body := .stmts (litB (s := (mem (st 36) 2)) rfl), scope := litS (s := (mem (st 36) 2)) rfl, globals := 3, closure := [], defaults := .none, kwdefaults := .none, doc := .none, pyModule := .str (Str.ofString "collections.abc") 2165, annotations := none, code := .ref 180, closureTuple := .none, builtins := 0 }, #[]⟩
noncomputable def ob_182 (P : Params) : Obj := ⟨.type "tuple", none, .seq #[] 0, #[]⟩
noncomputable def ob_183 (P : Params) : Obj := ⟨.type "dict", none, .dict #[⟨PyData.keyHash P (Str.ofString "__module__"), .str (Str.ofString "__module__") 2174, .str (Str.ofString "collections.abc") 2165⟩, ⟨PyData.keyHash P (Str.ofString "__firstlineno__"), .str (Str.ofString "__firstlineno__") 2178, .int 213 2177⟩, ⟨PyData.keyHash P (Str.ofString "__instancecheck__"), .str (Str.ofString "__instancecheck__") 2187, .ref 167⟩, ⟨PyData.keyHash P (Str.ofString "__subclasscheck__"), .str (Str.ofString "__subclasscheck__") 2195, .ref 174⟩, ⟨PyData.keyHash P (Str.ofString "register"), .str (Str.ofString "register") 2203, .ref 181⟩, ⟨PyData.keyHash P (Str.ofString "__static_attributes__"), .str (Str.ofString "__static_attributes__") 2204, .ref 182⟩, ⟨PyData.keyHash P (Str.ofString "__doc__"), .str (Str.ofString "__doc__") 2205, .none⟩] 2, #[]⟩
noncomputable def ob_184 (P : Params) : Obj := ⟨.type "type", none, .cls { name := Str.ofString "_ABCLike", bases := [.ref 151], mro := [.ref 184, .ref 151, .type "type", .type "object"], ns := 183, qualname := Str.ofString "_ABCLike", hasDict := true, slotNames := [], subclasses := [], abstract := false, collection := none, hasDel := false }, #[(some (.ref 154)), none, (some (.str (Str.ofString "_ABCLike") 2167)), (some (.str (Str.ofString "_ABCLike") 2175)), (some (.builtin "type.__new__")), (some (.bool true))]⟩
noncomputable def ob_185 (P : Params) : Obj := ⟨.type "super", none, .fields #[.ref 184, .ref 184, .ref 184], #[]⟩
noncomputable def ob_186 (P : Params) : Obj := ⟨.type "builtin_function_or_method", none, .fields #[.builtin "object.__init_subclass__", .ref 184], #[]⟩
noncomputable def ob_187 (P : Params) : Obj := ⟨.type "tuple", none, .seq #[] 0, #[]⟩
noncomputable def ob_188 (P : Params) : Obj := ⟨.none, none, .fields #[], #[]⟩
noncomputable def ob_189 (P : Params) : Obj := ⟨.type "tuple", none, .seq #[.str (Str.ofString "C") 2211] 0, #[]⟩
noncomputable def ob_190 (P : Params) : Obj := ⟨.type "tuple", none, .seq #[] 0, #[]⟩
noncomputable def ob_191 (P : Params) : Obj := ⟨.none, none, .func { name := Str.ofString "_abc_plain_meta", qualname := Str.ofString "_abc_plain_meta", params := litA (s := (st 37)) rfl, body := .stmts (litB (s := (st 37)) rfl), scope := litS (s := (st 37)) rfl, globals := 0, closure := [], defaults := .none, kwdefaults := .none, doc := .none, pyModule := .none, annotations := none, code := .none, closureTuple := .none, builtins := 0 }, #[]⟩
noncomputable def ob_192 (P : Params) : Obj := ⟨.type "code", none, .fields #[.str (Str.ofString "_abc_plain_meta") 2208, .str (Str.ofString "_abc_plain_meta") 2209, .str (Str.ofString "/claim/cut.py") 2210, .int 228 0, .int 1 0, .int 0 0, .int 0 0, .int 3 0, .ref 187, .bool true, .int 276 0, .ref 188, .none, .ref 189, .ref 190, .ref 191, .int 2212 0, .int 228 0, .str (Str.ofString "/claim/cut.py") 2213], #[]⟩
noncomputable def ob_193 (P : Params) : Obj := ⟨.type "function", none, .func { name := Str.ofString "_abc_plain_meta", qualname := Str.ofString "_abc_plain_meta", params := litA (s := (st 37)) rfl, body := .stmts (litB (s := (st 37)) rfl), scope := litS (s := (st 37)) rfl, globals := 3, closure := [], defaults := .none, kwdefaults := .none, doc := .none, pyModule := .str (Str.ofString "collections.abc") 2165, annotations := none, code := .ref 192, closureTuple := .none, builtins := 0 }, #[]⟩
noncomputable def ob_194 (P : Params) : Obj := ⟨.type "tuple", none, .seq #[] 0, #[]⟩
noncomputable def ob_195 (P : Params) : Obj := ⟨.none, none, .fields #[], #[]⟩
noncomputable def ob_196 (P : Params) : Obj := ⟨.type "tuple", none, .seq #[.str (Str.ofString "path") 2220, .str (Str.ofString "kind") 2221, .str (Str.ofString "hook") 2222, .str (Str.ofString "given") 2223] 0, #[]⟩
noncomputable def ob_197 (P : Params) : Obj := ⟨.type "tuple", none, .seq #[] 0, #[]⟩
noncomputable def ob_198 (P : Params) : Obj := ⟨.none, none, .func { name := Str.ofString "fspath", qualname := Str.ofString "fspath", params := litA (s := (st 39)) rfl, body := .stmts (litB (s := (st 39)) rfl), scope := litS (s := (st 39)) rfl, globals := 0, closure := [], defaults := .none, kwdefaults := .none, doc := .none, pyModule := .none, annotations := none, code := .none, closureTuple := .none, builtins := 0 }, #[]⟩
noncomputable def ob_199 (P : Params) : Obj := ⟨.type "code", none, .fields #[.str (Str.ofString "fspath") 2217, .str (Str.ofString "fspath") 2218, .str (Str.ofString "/claim/cut.py") 2219, .int 232 0, .int 1 0, .int 0 0, .int 0 0, .int 3 0, .ref 194, .bool true, .int 276 0, .ref 195, .none, .ref 196, .ref 197, .ref 198, .int 2224 0, .int 232 0, .str (Str.ofString "/claim/cut.py") 2225], #[]⟩
noncomputable def ob_200 (P : Params) : Obj := ⟨.type "function", none, .func { name := Str.ofString "fspath", qualname := Str.ofString "fspath", params := litA (s := (st 39)) rfl, body := .stmts (litB (s := (st 39)) rfl), scope := litS (s := (st 39)) rfl, globals := 3, closure := [], defaults := .none, kwdefaults := .none, doc := .none, pyModule := .str (Str.ofString "os") 2215, annotations := none, code := .ref 199, closureTuple := .none, builtins := 0 }, #[]⟩
noncomputable def ob_201 (P : Params) : Obj := ⟨.type "tuple", none, .seq #[] 0, #[]⟩
noncomputable def ob_202 (P : Params) : Obj := ⟨.none, none, .fields #[], #[]⟩
noncomputable def ob_203 (P : Params) : Obj := ⟨.type "tuple", none, .seq #[.str (Str.ofString "p") 2232, .str (Str.ofString "sep") 2233, .str (Str.ofString "empty") 2234] 0, #[]⟩
noncomputable def ob_204 (P : Params) : Obj := ⟨.type "tuple", none, .seq #[] 0, #[]⟩
noncomputable def ob_205 (P : Params) : Obj := ⟨.none, none, .func { name := Str.ofString "splitroot", qualname := Str.ofString "splitroot", params := litA (s := (st 41)) rfl, body := .stmts (litB (s := (st 41)) rfl), scope := litS (s := (st 41)) rfl, globals := 0, closure := [], defaults := .none, kwdefaults := .none, doc := .none, pyModule := .none, annotations := none, code := .none, closureTuple := .none, builtins := 0 }, #[]⟩
noncomputable def ob_206 (P : Params) : Obj := ⟨.type "code", none, .fields #[.str (Str.ofString "splitroot") 2229, .str (Str.ofString "splitroot") 2230, .str (Str.ofString "/claim/cut.py") 2231, .int 249 0, .int 1 0, .int 0 0, .int 0 0, .int 3 0, .ref 201, .bool true, .int 276 0, .ref 202, .none, .ref 203, .ref 204, .ref 205, .int 2235 0, .int 249 0, .str (Str.ofString "/claim/cut.py") 2236], #[]⟩
noncomputable def ob_207 (P : Params) : Obj := ⟨.type "function", none, .func { name := Str.ofString "splitroot", qualname := Str.ofString "splitroot", params := litA (s := (st 41)) rfl, body := .stmts (litB (s := (st 41)) rfl), scope := litS (s := (st 41)) rfl, globals := 3, closure := [], defaults := .none, kwdefaults := .none, doc := .none, pyModule := .str (Str.ofString "cpy313.posixpath") 2227, annotations := none, code := .ref 206, closureTuple := .none, builtins := 0 }, #[]⟩
noncomputable def ob_208 (P : Params) : Obj := ⟨.type "tuple", none, .seq #[] 0, #[]⟩
noncomputable def ob_209 (P : Params) : Obj := ⟨.none, none, .fields #[], #[]⟩
noncomputable def ob_210 (P : Params) : Obj := ⟨.type "tuple", none, .seq #[.str (Str.ofString "path") 2241, .str (Str.ofString "sep") 2242, .str (Str.ofString "dot") 2243, .str (Str.ofString "dotdot") 2244, .str (Str.ofString "_") 2245, .str (Str.ofString "initial_slashes") 2246, .str (Str.ofString "comps") 2247, .str (Str.ofString "new_comps") 2248, .str (Str.ofString "comp") 2249] 0, #[]⟩
noncomputable def ob_211 (P : Params) : Obj := ⟨.type "tuple", none, .seq #[] 0, #[]⟩
noncomputable def ob_212 (P : Params) : Obj := ⟨.none, none, .func { name := Str.ofString "normpath", qualname := Str.ofString "normpath", params := litA (s := (st 42)) rfl, body := .stmts (litB (s := (st 42)) rfl), scope := litS (s := (st 42)) rfl, globals := 0, closure := [], defaults := .none, kwdefaults := .none, doc := .none, pyModule := .none, annotations := none, code := .none, closureTuple := .none, builtins := 0 }, #[]⟩
noncomputable def ob_213 (P : Params) : Obj := ⟨.type "code", none, .fields #[.str (Str.ofString "normpath") 2238, .str (Str.ofString "normpath") 2239, .str (Str.ofString "/claim/cut.py") 2240, .int 263 0, .int 1 0, .int 0 0, .int 0 0, .int 3 0, .ref 208, .bool true, .int 276 0, .ref 209, .none, .ref 210, .ref 211, .ref 212, .int 2250 0, .int 263 0, .str (Str.ofString "/claim/cut.py") 2251], #[]⟩
noncomputable def ob_214 (P : Params) : Obj := ⟨.type "function", none, .func { name := Str.ofString "normpath", qualname := Str.ofString "normpath", params := litA (s := (st 42)) rfl, body := .stmts (litB (s := (st 42)) rfl), scope := litS (s := (st 42)) rfl, globals := 3, closure := [], defaults := .none, kwdefaults := .none, doc := .none, pyModule := .str (Str.ofString "cpy313.posixpath") 2227, annotations := none, code := .ref 213, closureTuple := .none, builtins := 0 }, #[]⟩
noncomputable def ob_215 (P : Params) : Obj := ⟨.type "tuple", none, .seq #[] 0, #[]⟩
noncomputable def ob_216 (P : Params) : Obj := ⟨.none, none, .fields #[], #[]⟩
noncomputable def ob_217 (P : Params) : Obj := ⟨.type "tuple", none, .seq #[.str (Str.ofString "text") 2258, .str (Str.ofString "row") 2259, .str (Str.ofString "inside") 2260, .str (Str.ofString "gap") 2261, .str (Str.ofString "groups") 2262, .str (Str.ofString "place") 2263, .str (Str.ofString "group") 2264, .str (Str.ofString "found") 2265] 0, #[]⟩
noncomputable def ob_218 (P : Params) : Obj := ⟨.type "tuple", none, .seq #[] 0, #[]⟩
noncomputable def ob_219 (P : Params) : Obj := ⟨.none, none, .func { name := Str.ofString "_law_takes", qualname := Str.ofString "_law_takes", params := litA (s := (st 44)) rfl, body := .stmts (litB (s := (st 44)) rfl), scope := litS (s := (st 44)) rfl, globals := 0, closure := [], defaults := .none, kwdefaults := .none, doc := .none, pyModule := .none, annotations := none, code := .none, closureTuple := .none, builtins := 0 }, #[]⟩
noncomputable def ob_220 (P : Params) : Obj := ⟨.type "code", none, .fields #[.str (Str.ofString "_law_takes") 2255, .str (Str.ofString "_law_takes") 2256, .str (Str.ofString "/claim/cut.py") 2257, .int 289 0, .int 2 0, .int 0 0, .int 0 0, .int 3 0, .ref 215, .bool true, .int 276 0, .ref 216, .none, .ref 217, .ref 218, .ref 219, .int 2266 0, .int 289 0, .str (Str.ofString "/claim/cut.py") 2267], #[]⟩
noncomputable def ob_221 (P : Params) : Obj := ⟨.type "function", none, .func { name := Str.ofString "_law_takes", qualname := Str.ofString "_law_takes", params := litA (s := (st 44)) rfl, body := .stmts (litB (s := (st 44)) rfl), scope := litS (s := (st 44)) rfl, globals := 3, closure := [], defaults := .none, kwdefaults := .none, doc := .none, pyModule := .str (Str.ofString "law_rt0056_01") 2253, annotations := none, code := .ref 220, closureTuple := .none, builtins := 0 }, #[]⟩
noncomputable def ob_222 (P : Params) : Obj := ⟨.type "tuple", none, .seq #[] 0, #[]⟩
noncomputable def ob_223 (P : Params) : Obj := ⟨.none, none, .fields #[], #[]⟩
noncomputable def ob_224 (P : Params) : Obj := ⟨.none, none, .func { name := Str.ofString "_law_divided", qualname := Str.ofString "_law_divided", params := litA (s := (st 45)) rfl, body := .stmts (litB (s := (st 45)) rfl), scope := litS (s := (st 45)) rfl, globals := 0, closure := [], defaults := .none, kwdefaults := .none, doc := .none, pyModule := .none, annotations := none, code := .none, closureTuple := .none, builtins := 0 }, #[]⟩
noncomputable def ob_225 (P : Params) : Obj := ⟨.type "code", none, .fields #[.str (Str.ofString "_law_divided") 2269, .str (Str.ofString "_law_divided") 2270, .str (Str.ofString "/claim/cut.py") 2271, .int 306 0, .int 4 0, .int 0 0, .int 0 0, .int 3 0, .ref 222, .bool true, .int 276 0, .ref 223, .none, .none, .none, .ref 224, .int 2272 0, .int 306 0, .str (Str.ofString "/claim/cut.py") 2273], #[]⟩
noncomputable def ob_226 (P : Params) : Obj := ⟨.type "function", none, .func { name := Str.ofString "_law_divided", qualname := Str.ofString "_law_divided", params := litA (s := (st 45)) rfl, body := .stmts (litB (s := (st 45)) rfl), scope := litS (s := (st 45)) rfl, globals := 3, closure := [], defaults := .none, kwdefaults := .none, doc := .none, pyModule := .str (Str.ofString "law_rt0056_01") 2253, annotations := none, code := .ref 225, closureTuple := .none, builtins := 0 }, #[]⟩
noncomputable def ob_227 (P : Params) : Obj := ⟨.type "tuple", none, .seq #[] 0, #[]⟩
noncomputable def ob_228 (P : Params) : Obj := ⟨.none, none, .fields #[], #[]⟩
noncomputable def ob_229 (P : Params) : Obj := ⟨.none, none, .func { name := Str.ofString "law", qualname := Str.ofString "law", params := litA (s := (st 46)) rfl, body := .stmts (litB (s := (st 46)) rfl), scope := litS (s := (st 46)) rfl, globals := 0, closure := [], defaults := .none, kwdefaults := .none, doc := .none, pyModule := .none, annotations := none, code := .none, closureTuple := .none, builtins := 0 }, #[]⟩
noncomputable def ob_230 (P : Params) : Obj := ⟨.type "code", none, .fields #[.str (Str.ofString "law") 2275, .str (Str.ofString "law") 2276, .str (Str.ofString "/claim/cut.py") 2277, .int 323 0, .int 1 0, .int 0 0, .int 0 0, .int 3 0, .ref 227, .bool true, .int 276 0, .ref 228, .none, .none, .none, .ref 229, .int 2278 0, .int 323 0, .str (Str.ofString "/claim/cut.py") 2279], #[]⟩
noncomputable def ob_231 (P : Params) : Obj := ⟨.type "function", none, .func { name := Str.ofString "law", qualname := Str.ofString "law", params := litA (s := (st 46)) rfl, body := .stmts (litB (s := (st 46)) rfl), scope := litS (s := (st 46)) rfl, globals := 3, closure := [], defaults := .none, kwdefaults := .none, doc := .none, pyModule := .str (Str.ofString "law_rt0056_01") 2253, annotations := none, code := .ref 230, closureTuple := .none, builtins := 0 }, #[]⟩
noncomputable def by12 : List Nat := [45, 33, 42, 43, 47, 97, 98, 99, 100, 101, 102, 103, 104, 105, 106, 107, 108, 109, 110, 111, 112, 113, 114, 115, 116, 117, 118, 119, 120, 121, 122, 65, 66, 67, 68, 69, 70, 71, 72, 73, 74, 75, 76, 77, 78, 79, 80, 81, 82, 83, 84, 85, 86, 87, 88, 89, 90, 48, 49, 50, 51, 52, 53, 54, 55, 56, 57]
noncomputable def by14 : List Nat := [32, 33, 34, 35, 36, 37, 38, 39, 40, 41, 42, 43, 44, 45, 46, 47, 48, 49, 50, 51, 52, 53, 54, 55, 56, 57, 58, 59, 60, 62, 63, 64, 65, 66, 67, 68, 69, 70, 71, 72, 73, 74, 75, 76, 77, 78, 79, 80, 81, 82, 83, 84, 85, 86, 87, 88, 89, 90, 91, 92, 93, 94, 95, 96, 97, 98, 99, 100, 101, 102, 103, 104, 105, 106, 107, 108, 109, 110, 111, 112, 113, 114, 115, 116, 117, 118, 119, 120, 121, 122, 123, 124, 125, 126, 9]
noncomputable def by26 : List Nat := [40, 41, 91, 93, 123, 125, 63, 42, 43, 45, 124, 94, 36, 92, 46, 38, 126, 35, 32, 9, 10, 13, 11, 12]
noncomputable def ns12 (P : Params) (i : Nat) : Obj := ⟨.type "dict", none, .dict #[⟨PyData.keyHash P (Str.ofString "__name__"), .str (Str.ofString "__name__") 165, .str (Str.ofString "cpy313.email.quoprimime") 1336⟩, ⟨PyData.keyHash P (Str.ofString "__doc__"), .str (Str.ofString "__doc__") 166, .none⟩, ⟨PyData.keyHash P (Str.ofString "__package__"), .str (Str.ofString "__package__") 167, .none⟩, ⟨PyData.keyHash P (Str.ofString "__loader__"), .str (Str.ofString "__loader__") 168, .builtin "__main__.__loader__#opaque"⟩, ⟨PyData.keyHash P (Str.ofString "__spec__"), .str (Str.ofString "__spec__") 169, .none⟩, ⟨PyData.keyHash P (Str.ofString "__annotations__"), .str (Str.ofString "__annotations__") 170, .ref 6⟩, ⟨PyData.keyHash P (Str.ofString "__builtins__"), .str (Str.ofString "__builtins__") 171, .ref 4⟩, ⟨PyData.keyHash P (Str.ofString "__file__"), .str (Str.ofString "__file__") 173, .str (Str.ofString "/claim/cut.py") 172⟩, ⟨PyData.keyHash P (Str.ofString "__cached__"), .str (Str.ofString "__cached__") 174, .none⟩, ⟨PyData.keyHash P (Str.ofString "_sre"), .str (Str.ofString "_sre") 275, .ref 12⟩, ⟨PyData.keyHash P (Str.ofString "_wall"), .str (Str.ofString "_wall") 288, .ref 38⟩, ⟨PyData.keyHash P (Str.ofString "CRLF"), .str (Str.ofString "CRLF") 290, .str (Str.ofString "\x0d\n") 289⟩, ⟨PyData.keyHash P (Str.ofString "NL"), .str (Str.ofString "NL") 292, .str (Str.ofString "\n") 291⟩, ⟨PyData.keyHash P (Str.ofString "_QUOPRI_MAP"), .str (Str.ofString "_QUOPRI_MAP") 1320, .ref 41⟩, ⟨PyData.keyHash P (Str.ofString "_QUOPRI_HEADER_MAP"), .str (Str.ofString "_QUOPRI_HEADER_MAP") 1321, .ref 46⟩, ⟨PyData.keyHash P (Str.ofString "_QUOPRI_BODY_MAP"), .str (Str.ofString "_QUOPRI_BODY_MAP") 1322, .ref 48⟩, ⟨PyData.keyHash P (Str.ofString "ascii_lowercase"), .str (Str.ofString "ascii_lowercase") 1324, .str (Str.ofString "abcdefghijklmnopqrstuvwxyz") 1323⟩, ⟨PyData.keyHash P (Str.ofString "ascii_uppercase"), .str (Str.ofString "ascii_uppercase") 1326, .str (Str.ofString "ABCDEFGHIJKLMNOPQRSTUVWXYZ") 1325⟩, ⟨PyData.keyHash P (Str.ofString "ascii_letters"), .str (Str.ofString "ascii_letters") 1328, .str (Str.ofString "abcdefghijklmnopqrstuvwxyzABCDEFGHIJKLMNOPQRSTUVWXYZ") 1327⟩, ⟨PyData.keyHash P (Str.ofString "digits"), .str (Str.ofString "digits") 1330, .str (Str.ofString "0123456789") 1329⟩, ⟨PyData.keyHash P (Str.ofString "hexdigits"), .str (Str.ofString "hexdigits") 1335, .str (Str.ofString "0123456789abcdefABCDEF") 1334⟩, ⟨PyData.keyHash P (Str.ofString "c"), .str (Str.ofString "c") 1346, .int (Int.ofNat (by12.getD (i - 1) 0)) (1345 + 3 * (i - 1))⟩] 22, #[]⟩
noncomputable def ns14 (P : Params) (i : Nat) : Obj := ⟨.type "dict", none, .dict #[⟨PyData.keyHash P (Str.ofString "__name__"), .str (Str.ofString "__name__") 165, .str (Str.ofString "cpy313.email.quoprimime") 1336⟩, ⟨PyData.keyHash P (Str.ofString "__doc__"), .str (Str.ofString "__doc__") 166, .none⟩, ⟨PyData.keyHash P (Str.ofString "__package__"), .str (Str.ofString "__package__") 167, .none⟩, ⟨PyData.keyHash P (Str.ofString "__loader__"), .str (Str.ofString "__loader__") 168, .builtin "__main__.__loader__#opaque"⟩, ⟨PyData.keyHash P (Str.ofString "__spec__"), .str (Str.ofString "__spec__") 169, .none⟩, ⟨PyData.keyHash P (Str.ofString "__annotations__"), .str (Str.ofString "__annotations__") 170, .ref 6⟩, ⟨PyData.keyHash P (Str.ofString "__builtins__"), .str (Str.ofString "__builtins__") 171, .ref 4⟩, ⟨PyData.keyHash P (Str.ofString "__file__"), .str (Str.ofString "__file__") 173, .str (Str.ofString "/claim/cut.py") 172⟩, ⟨PyData.keyHash P (Str.ofString "__cached__"), .str (Str.ofString "__cached__") 174, .none⟩, ⟨PyData.keyHash P (Str.ofString "_sre"), .str (Str.ofString "_sre") 275, .ref 12⟩, ⟨PyData.keyHash P (Str.ofString "_wall"), .str (Str.ofString "_wall") 288, .ref 38⟩, ⟨PyData.keyHash P (Str.ofString "CRLF"), .str (Str.ofString "CRLF") 290, .str (Str.ofString "\x0d\n") 289⟩, ⟨PyData.keyHash P (Str.ofString "NL"), .str (Str.ofString "NL") 292, .str (Str.ofString "\n") 291⟩, ⟨PyData.keyHash P (Str.ofString "_QUOPRI_MAP"), .str (Str.ofString "_QUOPRI_MAP") 1320, .ref 41⟩, ⟨PyData.keyHash P (Str.ofString "_QUOPRI_HEADER_MAP"), .str (Str.ofString "_QUOPRI_HEADER_MAP") 1321, .ref 46⟩, ⟨PyData.keyHash P (Str.ofString "_QUOPRI_BODY_MAP"), .str (Str.ofString "_QUOPRI_BODY_MAP") 1322, .ref 48⟩, ⟨PyData.keyHash P (Str.ofString "ascii_lowercase"), .str (Str.ofString "ascii_lowercase") 1324, .str (Str.ofString "abcdefghijklmnopqrstuvwxyz") 1323⟩, ⟨PyData.keyHash P (Str.ofString "ascii_uppercase"), .str (Str.ofString "ascii_uppercase") 1326, .str (Str.ofString "ABCDEFGHIJKLMNOPQRSTUVWXYZ") 1325⟩, ⟨PyData.keyHash P (Str.ofString "ascii_letters"), .str (Str.ofString "ascii_letters") 1328, .str (Str.ofString "abcdefghijklmnopqrstuvwxyzABCDEFGHIJKLMNOPQRSTUVWXYZ") 1327⟩, ⟨PyData.keyHash P (Str.ofString "digits"), .str (Str.ofString "digits") 1330, .str (Str.ofString "0123456789") 1329⟩, ⟨PyData.keyHash P (Str.ofString "hexdigits"), .str (Str.ofString "hexdigits") 1335, .str (Str.ofString "0123456789abcdefABCDEF") 1334⟩, ⟨PyData.keyHash P (Str.ofString "c"), .str (Str.ofString "c") 1346, .int (Int.ofNat (by14.getD (i - 1) 0)) (1550 + 3 * (i - 1))⟩] 22, #[]⟩
noncomputable def it12 (i : Nat) : Obj := ⟨.type "bytes_iterator", none, .fields #[.bytes #[45, 33, 42, 43, 47, 97, 98, 99, 100, 101, 102, 103, 104, 105, 106, 107, 108, 109, 110, 111, 112, 113, 114, 115, 116, 117, 118, 119, 120, 121, 122, 65, 66, 67, 68, 69, 70, 71, 72, 73, 74, 75, 76, 77, 78, 79, 80, 81, 82, 83, 84, 85, 86, 87, 88, 89, 90, 48, 49, 50, 51, 52, 53, 54, 55, 56, 57] 1344, .int (Int.ofNat i) 0], #[]⟩
noncomputable def it14 (i : Nat) : Obj := ⟨.type "bytes_iterator", none, .fields #[.bytes #[32, 33, 34, 35, 36, 37, 38, 39, 40, 41, 42, 43, 44, 45, 46, 47, 48, 49, 50, 51, 52, 53, 54, 55, 56, 57, 58, 59, 60, 62, 63, 64, 65, 66, 67, 68, 69, 70, 71, 72, 73, 74, 75, 76, 77, 78, 79, 80, 81, 82, 83, 84, 85, 86, 87, 88, 89, 90, 91, 92, 93, 94, 95, 96, 97, 98, 99, 100, 101, 102, 103, 104, 105, 106, 107, 108, 109, 110, 111, 112, 113, 114, 115, 116, 117, 118, 119, 120, 121, 122, 123, 124, 125, 126, 9] 1549, .int (Int.ofNat i) 0], #[]⟩
noncomputable def it26 (i : Nat) : Obj := ⟨.type "bytes_iterator", none, .fields #[.bytes #[40, 41, 91, 93, 123, 125, 63, 42, 43, 45, 124, 94, 36, 92, 46, 38, 126, 35, 32, 9, 10, 13, 11, 12] 1941, .int (Int.ofNat i) 0], #[]⟩
noncomputable def li12 (P : Params) (i : Nat) : Obj := ⟨.type "list", none, .seq ⟨List.zipWith (pick (1345 + 3 * i)) (itemsOf (ob_46 P)) (itemsOf (ob_41 P))⟩ 0, #[]⟩
noncomputable def li14 (P : Params) (i : Nat) : Obj := ⟨.type "list", none, .seq ⟨List.zipWith (pick (1550 + 3 * i)) (itemsOf (ob_48 P)) (itemsOf (ob_41 P))⟩ 0, #[]⟩
noncomputable def di26 (P : Params) (i : Nat) : Obj := ⟨.type "dict", none, .dict ⟨(entsOf (ob_103 P)).take i⟩ i, #[]⟩
noncomputable def lo26 (P : Params) (i : Nat) : Obj := ⟨.type "dict", none, .dict #[⟨PyData.keyHash P (Str.ofString "i"), .str (Str.ofString "i") 1943, .int (Int.ofNat (by26.getD (i - 1) 0)) (1942 + 6 * (i - 1))⟩] 1, #[]⟩
noncomputable def tok_h12 (i : Nat) : Nat := 1345 + 3 * i
noncomputable def tok_h14 (i : Nat) : Nat := 1550 + 3 * i
noncomputable def tok_h26 (i : Nat) : Nat := 1942 + 6 * i
noncomputable def ov_zero_3 (P : Params) : Obj := ⟨.type "dict", none, .dict #[⟨PyData.keyHash P (Str.ofString "__name__"), .str (Str.ofString "__name__") 165, .str (Str.ofString "__main__") 164⟩, ⟨PyData.keyHash P (Str.ofString "__doc__"), .str (Str.ofString "__doc__") 166, .none⟩, ⟨PyData.keyHash P (Str.ofString "__package__"), .str (Str.ofString "__package__") 167, .none⟩, ⟨PyData.keyHash P (Str.ofString "__loader__"), .str (Str.ofString "__loader__") 168, .builtin "__main__.__loader__#opaque"⟩, ⟨PyData.keyHash P (Str.ofString "__spec__"), .str (Str.ofString "__spec__") 169, .none⟩, ⟨PyData.keyHash P (Str.ofString "__annotations__"), .str (Str.ofString "__annotations__") 170, .ref 6⟩, ⟨PyData.keyHash P (Str.ofString "__builtins__"), .str (Str.ofString "__builtins__") 171, .ref 4⟩, ⟨PyData.keyHash P (Str.ofString "__file__"), .str (Str.ofString "__file__") 173, .str (Str.ofString "/claim/cut.py") 172⟩, ⟨PyData.keyHash P (Str.ofString "__cached__"), .str (Str.ofString "__cached__") 174, .none⟩, ⟨PyData.keyHash P (Str.ofString "_sre"), .str (Str.ofString "_sre") 275, .ref 12⟩] 10, #[]⟩
noncomputable def ov_pre_29 (P : Params) : Obj := ⟨.none, none, .fields #[], #[]⟩
noncomputable def ov_A_3 (P : Params) : Obj := ⟨.type "dict", none, .dict #[⟨PyData.keyHash P (Str.ofString "__name__"), .str (Str.ofString "__name__") 165, .str (Str.ofString "__main__") 164⟩, ⟨PyData.keyHash P (Str.ofString "__doc__"), .str (Str.ofString "__doc__") 166, .none⟩, ⟨PyData.keyHash P (Str.ofString "__package__"), .str (Str.ofString "__package__") 167, .none⟩, ⟨PyData.keyHash P (Str.ofString "__loader__"), .str (Str.ofString "__loader__") 168, .builtin "__main__.__loader__#opaque"⟩, ⟨PyData.keyHash P (Str.ofString "__spec__"), .str (Str.ofString "__spec__") 169, .none⟩, ⟨PyData.keyHash P (Str.ofString "__annotations__"), .str (Str.ofString "__annotations__") 170, .ref 6⟩, ⟨PyData.keyHash P (Str.ofString "__builtins__"), .str (Str.ofString "__builtins__") 171, .ref 4⟩, ⟨PyData.keyHash P (Str.ofString "__file__"), .str (Str.ofString "__file__") 173, .str (Str.ofString "/claim/cut.py") 172⟩, ⟨PyData.keyHash P (Str.ofString "__cached__"), .str (Str.ofString "__cached__") 174, .none⟩, ⟨PyData.keyHash P (Str.ofString "_sre"), .str (Str.ofString "_sre") 275, .ref 12⟩, ⟨PyData.keyHash P (Str.ofString "_wall"), .str (Str.ofString "_wall") 288, .ref 38⟩, ⟨PyData.keyHash P (Str.ofString "CRLF"), .str (Str.ofString "CRLF") 290, .str (Str.ofString "\x0d\n") 289⟩, ⟨PyData.keyHash P (Str.ofString "NL"), .str (Str.ofString "NL") 292, .str (Str.ofString "\n") 291⟩, ⟨PyData.keyHash P (Str.ofString "_QUOPRI_MAP"), .str (Str.ofString "_QUOPRI_MAP") 1320, .ref 41⟩] 14, #[]⟩
noncomputable def ov_A_29 (P : Params) : Obj := ⟨.none, none, .fields #[.int 2 0, .int 0 0, .ref 37], #[]⟩
noncomputable def ov_B_3 (P : Params) : Obj := ⟨.type "dict", none, .dict #[⟨PyData.keyHash P (Str.ofString "__name__"), .str (Str.ofString "__name__") 165, .str (Str.ofString "cpy313.email.quoprimime") 1336⟩, ⟨PyData.keyHash P (Str.ofString "__doc__"), .str (Str.ofString "__doc__") 166, .none⟩, ⟨PyData.keyHash P (Str.ofString "__package__"), .str (Str.ofString "__package__") 167, .none⟩, ⟨PyData.keyHash P (Str.ofString "__loader__"), .str (Str.ofString "__loader__") 168, .builtin "__main__.__loader__#opaque"⟩, ⟨PyData.keyHash P (Str.ofString "__spec__"), .str (Str.ofString "__spec__") 169, .none⟩, ⟨PyData.keyHash P (Str.ofString "__annotations__"), .str (Str.ofString "__annotations__") 170, .ref 6⟩, ⟨PyData.keyHash P (Str.ofString "__builtins__"), .str (Str.ofString "__builtins__") 171, .ref 4⟩, ⟨PyData.keyHash P (Str.ofString "__file__"), .str (Str.ofString "__file__") 173, .str (Str.ofString "/claim/cut.py") 172⟩, ⟨PyData.keyHash P (Str.ofString "__cached__"), .str (Str.ofString "__cached__") 174, .none⟩, ⟨PyData.keyHash P (Str.ofString "_sre"), .str (Str.ofString "_sre") 275, .ref 12⟩, ⟨PyData.keyHash P (Str.ofString "_wall"), .str (Str.ofString "_wall") 288, .ref 38⟩, ⟨PyData.keyHash P (Str.ofString "CRLF"), .str (Str.ofString "CRLF") 290, .str (Str.ofString "\x0d\n") 289⟩, ⟨PyData.keyHash P (Str.ofString "NL"), .str (Str.ofString "NL") 292, .str (Str.ofString "\n") 291⟩, ⟨PyData.keyHash P (Str.ofString "_QUOPRI_MAP"), .str (Str.ofString "_QUOPRI_MAP") 1320, .ref 41⟩, ⟨PyData.keyHash P (Str.ofString "_QUOPRI_HEADER_MAP"), .str (Str.ofString "_QUOPRI_HEADER_MAP") 1321, .ref 46⟩, ⟨PyData.keyHash P (Str.ofString "_QUOPRI_BODY_MAP"), .str (Str.ofString "_QUOPRI_BODY_MAP") 1322, .ref 48⟩, ⟨PyData.keyHash P (Str.ofString "ascii_lowercase"), .str (Str.ofString "ascii_lowercase") 1324, .str (Str.ofString "abcdefghijklmnopqrstuvwxyz") 1323⟩, ⟨PyData.keyHash P (Str.ofString "ascii_uppercase"), .str (Str.ofString "ascii_uppercase") 1326, .str (Str.ofString "ABCDEFGHIJKLMNOPQRSTUVWXYZ") 1325⟩, ⟨PyData.keyHash P (Str.ofString "ascii_letters"), .str (Str.ofString "ascii_letters") 1328, .str (Str.ofString "abcdefghijklmnopqrstuvwxyzABCDEFGHIJKLMNOPQRSTUVWXYZ") 1327⟩, ⟨PyData.keyHash P (Str.ofString "digits"), .str (Str.ofString "digits") 1330, .str (Str.ofString "0123456789") 1329⟩, ⟨PyData.keyHash P (Str.ofString "hexdigits"), .str (Str.ofString "hexdigits") 1335, .str (Str.ofString "0123456789abcdefABCDEF") 1334⟩, ⟨PyData.keyHash P (Str.ofString "c"), .str (Str.ofString "c") 1346, .int 57 1543⟩] 22, #[]⟩
noncomputable def ov_B_46 (P : Params) : Obj := ⟨.type "list", none, .seq (List.toArray (.str (Str.ofString "=00") 299 :: .str (Str.ofString "=01") 303 :: .str (Str.ofString "=02") 307 :: .str (Str.ofString "=03") 311 :: .str (Str.ofString "=04") 315 :: .str (Str.ofString "=05") 319 :: .str (Str.ofString "=06") 323 :: .str (Str.ofString "=07") 327 :: .str (Str.ofString "=08") 331 :: .str (Str.ofString "=09") 335 :: .str (Str.ofString "=0A") 339 :: .str (Str.ofString "=0B") 343 :: .str (Str.ofString "=0C") 347 :: .str (Str.ofString "=0D") 351 :: .str (Str.ofString "=0E") 355 :: .str (Str.ofString "=0F") 359 :: .str (Str.ofString "=10") 363 :: .str (Str.ofString "=11") 367 :: .str (Str.ofString "=12") 371 :: .str (Str.ofString "=13") 375 :: .str (Str.ofString "=14") 379 :: .str (Str.ofString "=15") 383 :: .str (Str.ofString "=16") 387 :: .str (Str.ofString "=17") 391 :: .str (Str.ofString "=18") 395 :: .str (Str.ofString "=19") 399 :: .str (Str.ofString "=1A") 403 :: .str (Str.ofString "=1B") 407 :: .str (Str.ofString "=1C") 411 :: .str (Str.ofString "=1D") 415 :: .str (Str.ofString "=1E") 419 :: .str (Str.ofString "=1F") 423 :: .str (Str.ofString "=20") 427 :: .str (Str.ofString "!") 1350 :: .str (Str.ofString "=22") 435 :: .str (Str.ofString "=23") 439 :: .str (Str.ofString "=24") 443 :: .str (Str.ofString "=25") 447 :: .str (Str.ofString "=26") 451 :: .str (Str.ofString "=27") 455 :: .str (Str.ofString "=28") 459 :: .str (Str.ofString "=29") 463 :: .str (Str.ofString "*") 1353 :: .str (Str.ofString "+") 1356 :: .str (Str.ofString "=2C") 475 :: .str (Str.ofString "-") 1347 :: .str (Str.ofString "=2E") 483 :: .str (Str.ofString "/") 1359 :: .str (Str.ofString "0") 1518 :: .str (Str.ofString "1") 1521 :: .str (Str.ofString "2") 1524 :: .str (Str.ofString "3") 1527 :: .str (Str.ofString "4") 1530 :: .str (Str.ofString "5") 1533 :: .str (Str.ofString "6") 1536 :: .str (Str.ofString "7") 1539 :: .str (Str.ofString "8") 1542 :: .str (Str.ofString "9") 1545 :: .str (Str.ofString "=3A") 531 :: .str (Str.ofString "=3B") 535 :: .str (Str.ofString "=3C") 539 :: .str (Str.ofString "=3D") 543 :: .str (Str.ofString "=3E") 547 :: .str (Str.ofString "=3F") 551 :: .str (Str.ofString "=40") 555 :: .str (Str.ofString "A") 1440 :: .str (Str.ofString "B") 1443 :: .str (Str.ofString "C") 1446 :: .str (Str.ofString "D") 1449 :: .str (Str.ofString "E") 1452 :: .str (Str.ofString "F") 1455 :: .str (Str.ofString "G") 1458 :: .str (Str.ofString "H") 1461 :: .str (Str.ofString "I") 1464 :: .str (Str.ofString "J") 1467 :: .str (Str.ofString "K") 1470 :: .str (Str.ofString "L") 1473 :: .str (Str.ofString "M") 1476 :: .str (Str.ofString "N") 1479 :: .str (Str.ofString "O") 1482 :: .str (Str.ofString "P") 1485 :: .str (Str.ofString "Q") 1488 :: .str (Str.ofString "R") 1491 :: .str (Str.ofString "S") 1494 :: .str (Str.ofString "T") 1497 :: .str (Str.ofString "U") 1500 :: .str (Str.ofString "V") 1503 :: .str (Str.ofString "W") 1506 :: .str (Str.ofString "X") 1509 :: .str (Str.ofString "Y") 1512 :: .str (Str.ofString "Z") 1515 :: .str (Str.ofString "=5B") 663 :: .str (Str.ofString "=5C") 667 :: .str (Str.ofString "=5D") 671 :: .str (Str.ofString "=5E") 675 :: .str (Str.ofString "=5F") 679 :: .str (Str.ofString "=60") 683 :: .str (Str.ofString "a") 1362 :: .str (Str.ofString "b") 1365 :: .str (Str.ofString "c") 1368 :: .str (Str.ofString "d") 1371 :: .str (Str.ofString "e") 1374 :: .str (Str.ofString "f") 1377 :: .str (Str.ofString "g") 1380 :: .str (Str.ofString "h") 1383 :: .str (Str.ofString "i") 1386 :: .str (Str.ofString "j") 1389 :: .str (Str.ofString "k") 1392 :: .str (Str.ofString "l") 1395 :: .str (Str.ofString "m") 1398 :: .str (Str.ofString "n") 1401 :: .str (Str.ofString "o") 1404 :: .str (Str.ofString "p") 1407 :: .str (Str.ofString "q") 1410 :: .str (Str.ofString "r") 1413 :: .str (Str.ofString "s") 1416 :: .str (Str.ofString "t") 1419 :: .str (Str.ofString "u") 1422 :: .str (Str.ofString "v") 1425 :: .str (Str.ofString "w") 1428 :: .str (Str.ofString "x") 1431 :: .str (Str.ofString "y") 1434 :: .str (Str.ofString "z") 1437 :: .str (Str.ofString "=7B") 791 :: .str (Str.ofString "=7C") 795 :: .str (Str.ofString "=7D") 799 :: .str (Str.ofString "=7E") 803 :: .str (Str.ofString "=7F") 807 :: .str (Str.ofString "=80") 811 :: .str (Str.ofString "=81") 815 :: .str (Str.ofString "=82") 819 :: .str (Str.ofString "=83") 823 :: .str (Str.ofString "=84") 827 :: .str (Str.ofString "=85") 831 :: .str (Str.ofString "=86") 835 :: .str (Str.ofString "=87") 839 :: .str (Str.ofString "=88") 843 :: .str (Str.ofString "=89") 847 :: .str (Str.ofString "=8A") 851 :: .str (Str.ofString "=8B") 855 :: .str (Str.ofString "=8C") 859 :: .str (Str.ofString "=8D") 863 :: .str (Str.ofString "=8E") 867 :: .str (Str.ofString "=8F") 871 :: .str (Str.ofString "=90") 875 :: .str (Str.ofString "=91") 879 :: .str (Str.ofString "=92") 883 :: .str (Str.ofString "=93") 887 :: .str (Str.ofString "=94") 891 :: .str (Str.ofString "=95") 895 :: .str (Str.ofString "=96") 899 :: .str (Str.ofString "=97") 903 :: .str (Str.ofString "=98") 907 :: .str (Str.ofString "=99") 911 :: .str (Str.ofString "=9A") 915 :: .str (Str.ofString "=9B") 919 :: .str (Str.ofString "=9C") 923 :: .str (Str.ofString "=9D") 927 :: .str (Str.ofString "=9E") 931 :: .str (Str.ofString "=9F") 935 :: .str (Str.ofString "=A0") 939 :: .str (Str.ofString "=A1") 943 :: .str (Str.ofString "=A2") 947 :: .str (Str.ofString "=A3") 951 :: .str (Str.ofString "=A4") 955 :: .str (Str.ofString "=A5") 959 :: .str (Str.ofString "=A6") 963 :: .str (Str.ofString "=A7") 967 :: .str (Str.ofString "=A8") 971 :: .str (Str.ofString "=A9") 975 :: .str (Str.ofString "=AA") 979 :: .str (Str.ofString "=AB") 983 :: .str (Str.ofString "=AC") 987 :: .str (Str.ofString "=AD") 991 :: .str (Str.ofString "=AE") 995 :: .str (Str.ofString "=AF") 999 :: .str (Str.ofString "=B0") 1003 :: .str (Str.ofString "=B1") 1007 :: .str (Str.ofString "=B2") 1011 :: .str (Str.ofString "=B3") 1015 :: .str (Str.ofString "=B4") 1019 :: .str (Str.ofString "=B5") 1023 :: .str (Str.ofString "=B6") 1027 :: .str (Str.ofString "=B7") 1031 :: .str (Str.ofString "=B8") 1035 :: .str (Str.ofString "=B9") 1039 :: .str (Str.ofString "=BA") 1043 :: .str (Str.ofString "=BB") 1047 :: .str (Str.ofString "=BC") 1051 :: .str (Str.ofString "=BD") 1055 :: .str (Str.ofString "=BE") 1059 :: .str (Str.ofString "=BF") 1063 :: .str (Str.ofString "=C0") 1067 :: .str (Str.ofString "=C1") 1071 :: .str (Str.ofString "=C2") 1075 :: .str (Str.ofString "=C3") 1079 :: .str (Str.ofString "=C4") 1083 :: .str (Str.ofString "=C5") 1087 :: .str (Str.ofString "=C6") 1091 :: .str (Str.ofString "=C7") 1095 :: .str (Str.ofString "=C8") 1099 :: .str (Str.ofString "=C9") 1103 :: .str (Str.ofString "=CA") 1107 :: .str (Str.ofString "=CB") 1111 :: .str (Str.ofString "=CC") 1115 :: .str (Str.ofString "=CD") 1119 :: .str (Str.ofString "=CE") 1123 :: .str (Str.ofString "=CF") 1127 :: .str (Str.ofString "=D0") 1131 :: .str (Str.ofString "=D1") 1135 :: .str (Str.ofString "=D2") 1139 :: .str (Str.ofString "=D3") 1143 :: .str (Str.ofString "=D4") 1147 :: .str (Str.ofString "=D5") 1151 :: .str (Str.ofString "=D6") 1155 :: .str (Str.ofString "=D7") 1159 :: .str (Str.ofString "=D8") 1163 :: .str (Str.ofString "=D9") 1167 :: .str (Str.ofString "=DA") 1171 :: .str (Str.ofString "=DB") 1175 :: .str (Str.ofString "=DC") 1179 :: .str (Str.ofString "=DD") 1183 :: .str (Str.ofString "=DE") 1187 :: .str (Str.ofString "=DF") 1191 :: .str (Str.ofString "=E0") 1195 :: .str (Str.ofString "=E1") 1199 :: .str (Str.ofString "=E2") 1203 :: .str (Str.ofString "=E3") 1207 :: .str (Str.ofString "=E4") 1211 :: .str (Str.ofString "=E5") 1215 :: .str (Str.ofString "=E6") 1219 :: .str (Str.ofString "=E7") 1223 :: .str (Str.ofString "=E8") 1227 :: .str (Str.ofString "=E9") 1231 :: .str (Str.ofString "=EA") 1235 :: .str (Str.ofString "=EB") 1239 :: .str (Str.ofString "=EC") 1243 :: .str (Str.ofString "=ED") 1247 :: .str (Str.ofString "=EE") 1251 :: .str (Str.ofString "=EF") 1255 :: .str (Str.ofString "=F0") 1259 :: .str (Str.ofString "=F1") 1263 :: .str (Str.ofString "=F2") 1267 :: .str (Str.ofString "=F3") 1271 :: .str (Str.ofString "=F4") 1275 :: .str (Str.ofString "=F5") 1279 :: .str (Str.ofString "=F6") 1283 :: .str (Str.ofString "=F7") 1287 :: .str (Str.ofString "=F8") 1291 :: .str (Str.ofString "=F9") 1295 :: .str (Str.ofString "=FA") 1299 :: .str (Str.ofString "=FB") 1303 :: .str (Str.ofString "=FC") 1307 :: .str (Str.ofString "=FD") 1311 :: .str (Str.ofString "=FE") 1315 :: .str (Str.ofString "=FF") 1319 :: [])) 0, #[]⟩
noncomputable def ov_B_48 (P : Params) : Obj := ⟨.type "list", none, .seq (List.toArray (.str (Str.ofString "=00") 299 :: .str (Str.ofString "=01") 303 :: .str (Str.ofString "=02") 307 :: .str (Str.ofString "=03") 311 :: .str (Str.ofString "=04") 315 :: .str (Str.ofString "=05") 319 :: .str (Str.ofString "=06") 323 :: .str (Str.ofString "=07") 327 :: .str (Str.ofString "=08") 331 :: .str (Str.ofString "=09") 335 :: .str (Str.ofString "=0A") 339 :: .str (Str.ofString "=0B") 343 :: .str (Str.ofString "=0C") 347 :: .str (Str.ofString "=0D") 351 :: .str (Str.ofString "=0E") 355 :: .str (Str.ofString "=0F") 359 :: .str (Str.ofString "=10") 363 :: .str (Str.ofString "=11") 367 :: .str (Str.ofString "=12") 371 :: .str (Str.ofString "=13") 375 :: .str (Str.ofString "=14") 379 :: .str (Str.ofString "=15") 383 :: .str (Str.ofString "=16") 387 :: .str (Str.ofString "=17") 391 :: .str (Str.ofString "=18") 395 :: .str (Str.ofString "=19") 399 :: .str (Str.ofString "=1A") 403 :: .str (Str.ofString "=1B") 407 :: .str (Str.ofString "=1C") 411 :: .str (Str.ofString "=1D") 415 :: .str (Str.ofString "=1E") 419 :: .str (Str.ofString "=1F") 423 :: .str (Str.ofString "=20") 427 :: .str (Str.ofString "=21") 431 :: .str (Str.ofString "=22") 435 :: .str (Str.ofString "=23") 439 :: .str (Str.ofString "=24") 443 :: .str (Str.ofString "=25") 447 :: .str (Str.ofString "=26") 451 :: .str (Str.ofString "=27") 455 :: .str (Str.ofString "=28") 459 :: .str (Str.ofString "=29") 463 :: .str (Str.ofString "=2A") 467 :: .str (Str.ofString "=2B") 471 :: .str (Str.ofString "=2C") 475 :: .str (Str.ofString "=2D") 479 :: .str (Str.ofString "=2E") 483 :: .str (Str.ofString "=2F") 487 :: .str (Str.ofString "=30") 491 :: .str (Str.ofString "=31") 495 :: .str (Str.ofString "=32") 499 :: .str (Str.ofString "=33") 503 :: .str (Str.ofString "=34") 507 :: .str (Str.ofString "=35") 511 :: .str (Str.ofString "=36") 515 :: .str (Str.ofString "=37") 519 :: .str (Str.ofString "=38") 523 :: .str (Str.ofString "=39") 527 :: .str (Str.ofString "=3A") 531 :: .str (Str.ofString "=3B") 535 :: .str (Str.ofString "=3C") 539 :: .str (Str.ofString "=3D") 543 :: .str (Str.ofString "=3E") 547 :: .str (Str.ofString "=3F") 551 :: .str (Str.ofString "=40") 555 :: .str (Str.ofString "=41") 559 :: .str (Str.ofString "=42") 563 :: .str (Str.ofString "=43") 567 :: .str (Str.ofString "=44") 571 :: .str (Str.ofString "=45") 575 :: .str (Str.ofString "=46") 579 :: .str (Str.ofString "=47") 583 :: .str (Str.ofString "=48") 587 :: .str (Str.ofString "=49") 591 :: .str (Str.ofString "=4A") 595 :: .str (Str.ofString "=4B") 599 :: .str (Str.ofString "=4C") 603 :: .str (Str.ofString "=4D") 607 :: .str (Str.ofString "=4E") 611 :: .str (Str.ofString "=4F") 615 :: .str (Str.ofString "=50") 619 :: .str (Str.ofString "=51") 623 :: .str (Str.ofString "=52") 627 :: .str (Str.ofString "=53") 631 :: .str (Str.ofString "=54") 635 :: .str (Str.ofString "=55") 639 :: .str (Str.ofString "=56") 643 :: .str (Str.ofString "=57") 647 :: .str (Str.ofString "=58") 651 :: .str (Str.ofString "=59") 655 :: .str (Str.ofString "=5A") 659 :: .str (Str.ofString "=5B") 663 :: .str (Str.ofString "=5C") 667 :: .str (Str.ofString "=5D") 671 :: .str (Str.ofString "=5E") 675 :: .str (Str.ofString "=5F") 679 :: .str (Str.ofString "=60") 683 :: .str (Str.ofString "=61") 687 :: .str (Str.ofString "=62") 691 :: .str (Str.ofString "=63") 695 :: .str (Str.ofString "=64") 699 :: .str (Str.ofString "=65") 703 :: .str (Str.ofString "=66") 707 :: .str (Str.ofString "=67") 711 :: .str (Str.ofString "=68") 715 :: .str (Str.ofString "=69") 719 :: .str (Str.ofString "=6A") 723 :: .str (Str.ofString "=6B") 727 :: .str (Str.ofString "=6C") 731 :: .str (Str.ofString "=6D") 735 :: .str (Str.ofString "=6E") 739 :: .str (Str.ofString "=6F") 743 :: .str (Str.ofString "=70") 747 :: .str (Str.ofString "=71") 751 :: .str (Str.ofString "=72") 755 :: .str (Str.ofString "=73") 759 :: .str (Str.ofString "=74") 763 :: .str (Str.ofString "=75") 767 :: .str (Str.ofString "=76") 771 :: .str (Str.ofString "=77") 775 :: .str (Str.ofString "=78") 779 :: .str (Str.ofString "=79") 783 :: .str (Str.ofString "=7A") 787 :: .str (Str.ofString "=7B") 791 :: .str (Str.ofString "=7C") 795 :: .str (Str.ofString "=7D") 799 :: .str (Str.ofString "=7E") 803 :: .str (Str.ofString "=7F") 807 :: .str (Str.ofString "=80") 811 :: .str (Str.ofString "=81") 815 :: .str (Str.ofString "=82") 819 :: .str (Str.ofString "=83") 823 :: .str (Str.ofString "=84") 827 :: .str (Str.ofString "=85") 831 :: .str (Str.ofString "=86") 835 :: .str (Str.ofString "=87") 839 :: .str (Str.ofString "=88") 843 :: .str (Str.ofString "=89") 847 :: .str (Str.ofString "=8A") 851 :: .str (Str.ofString "=8B") 855 :: .str (Str.ofString "=8C") 859 :: .str (Str.ofString "=8D") 863 :: .str (Str.ofString "=8E") 867 :: .str (Str.ofString "=8F") 871 :: .str (Str.ofString "=90") 875 :: .str (Str.ofString "=91") 879 :: .str (Str.ofString "=92") 883 :: .str (Str.ofString "=93") 887 :: .str (Str.ofString "=94") 891 :: .str (Str.ofString "=95") 895 :: .str (Str.ofString "=96") 899 :: .str (Str.ofString "=97") 903 :: .str (Str.ofString "=98") 907 :: .str (Str.ofString "=99") 911 :: .str (Str.ofString "=9A") 915 :: .str (Str.ofString "=9B") 919 :: .str (Str.ofString "=9C") 923 :: .str (Str.ofString "=9D") 927 :: .str (Str.ofString "=9E") 931 :: .str (Str.ofString "=9F") 935 :: .str (Str.ofString "=A0") 939 :: .str (Str.ofString "=A1") 943 :: .str (Str.ofString "=A2") 947 :: .str (Str.ofString "=A3") 951 :: .str (Str.ofString "=A4") 955 :: .str (Str.ofString "=A5") 959 :: .str (Str.ofString "=A6") 963 :: .str (Str.ofString "=A7") 967 :: .str (Str.ofString "=A8") 971 :: .str (Str.ofString "=A9") 975 :: .str (Str.ofString "=AA") 979 :: .str (Str.ofString "=AB") 983 :: .str (Str.ofString "=AC") 987 :: .str (Str.ofString "=AD") 991 :: .str (Str.ofString "=AE") 995 :: .str (Str.ofString "=AF") 999 :: .str (Str.ofString "=B0") 1003 :: .str (Str.ofString "=B1") 1007 :: .str (Str.ofString "=B2") 1011 :: .str (Str.ofString "=B3") 1015 :: .str (Str.ofString "=B4") 1019 :: .str (Str.ofString "=B5") 1023 :: .str (Str.ofString "=B6") 1027 :: .str (Str.ofString "=B7") 1031 :: .str (Str.ofString "=B8") 1035 :: .str (Str.ofString "=B9") 1039 :: .str (Str.ofString "=BA") 1043 :: .str (Str.ofString "=BB") 1047 :: .str (Str.ofString "=BC") 1051 :: .str (Str.ofString "=BD") 1055 :: .str (Str.ofString "=BE") 1059 :: .str (Str.ofString "=BF") 1063 :: .str (Str.ofString "=C0") 1067 :: .str (Str.ofString "=C1") 1071 :: .str (Str.ofString "=C2") 1075 :: .str (Str.ofString "=C3") 1079 :: .str (Str.ofString "=C4") 1083 :: .str (Str.ofString "=C5") 1087 :: .str (Str.ofString "=C6") 1091 :: .str (Str.ofString "=C7") 1095 :: .str (Str.ofString "=C8") 1099 :: .str (Str.ofString "=C9") 1103 :: .str (Str.ofString "=CA") 1107 :: .str (Str.ofString "=CB") 1111 :: .str (Str.ofString "=CC") 1115 :: .str (Str.ofString "=CD") 1119 :: .str (Str.ofString "=CE") 1123 :: .str (Str.ofString "=CF") 1127 :: .str (Str.ofString "=D0") 1131 :: .str (Str.ofString "=D1") 1135 :: .str (Str.ofString "=D2") 1139 :: .str (Str.ofString "=D3") 1143 :: .str (Str.ofString "=D4") 1147 :: .str (Str.ofString "=D5") 1151 :: .str (Str.ofString "=D6") 1155 :: .str (Str.ofString "=D7") 1159 :: .str (Str.ofString "=D8") 1163 :: .str (Str.ofString "=D9") 1167 :: .str (Str.ofString "=DA") 1171 :: .str (Str.ofString "=DB") 1175 :: .str (Str.ofString "=DC") 1179 :: .str (Str.ofString "=DD") 1183 :: .str (Str.ofString "=DE") 1187 :: .str (Str.ofString "=DF") 1191 :: .str (Str.ofString "=E0") 1195 :: .str (Str.ofString "=E1") 1199 :: .str (Str.ofString "=E2") 1203 :: .str (Str.ofString "=E3") 1207 :: .str (Str.ofString "=E4") 1211 :: .str (Str.ofString "=E5") 1215 :: .str (Str.ofString "=E6") 1219 :: .str (Str.ofString "=E7") 1223 :: .str (Str.ofString "=E8") 1227 :: .str (Str.ofString "=E9") 1231 :: .str (Str.ofString "=EA") 1235 :: .str (Str.ofString "=EB") 1239 :: .str (Str.ofString "=EC") 1243 :: .str (Str.ofString "=ED") 1247 :: .str (Str.ofString "=EE") 1251 :: .str (Str.ofString "=EF") 1255 :: .str (Str.ofString "=F0") 1259 :: .str (Str.ofString "=F1") 1263 :: .str (Str.ofString "=F2") 1267 :: .str (Str.ofString "=F3") 1271 :: .str (Str.ofString "=F4") 1275 :: .str (Str.ofString "=F5") 1279 :: .str (Str.ofString "=F6") 1283 :: .str (Str.ofString "=F7") 1287 :: .str (Str.ofString "=F8") 1291 :: .str (Str.ofString "=F9") 1295 :: .str (Str.ofString "=FA") 1299 :: .str (Str.ofString "=FB") 1303 :: .str (Str.ofString "=FC") 1307 :: .str (Str.ofString "=FD") 1311 :: .str (Str.ofString "=FE") 1315 :: .str (Str.ofString "=FF") 1319 :: [])) 0, #[]⟩
noncomputable def ov_C_3 (P : Params) : Obj := ⟨.type "dict", none, .dict #[⟨PyData.keyHash P (Str.ofString "__name__"), .str (Str.ofString "__name__") 165, .str (Str.ofString "cpy313.email.quoprimime") 1336⟩, ⟨PyData.keyHash P (Str.ofString "__doc__"), .str (Str.ofString "__doc__") 166, .none⟩, ⟨PyData.keyHash P (Str.ofString "__package__"), .str (Str.ofString "__package__") 167, .none⟩, ⟨PyData.keyHash P (Str.ofString "__loader__"), .str (Str.ofString "__loader__") 168, .builtin "__main__.__loader__#opaque"⟩, ⟨PyData.keyHash P (Str.ofString "__spec__"), .str (Str.ofString "__spec__") 169, .none⟩, ⟨PyData.keyHash P (Str.ofString "__annotations__"), .str (Str.ofString "__annotations__") 170, .ref 6⟩, ⟨PyData.keyHash P (Str.ofString "__builtins__"), .str (Str.ofString "__builtins__") 171, .ref 4⟩, ⟨PyData.keyHash P (Str.ofString "__file__"), .str (Str.ofString "__file__") 173, .str (Str.ofString "/claim/cut.py") 172⟩, ⟨PyData.keyHash P (Str.ofString "__cached__"), .str (Str.ofString "__cached__") 174, .none⟩, ⟨PyData.keyHash P (Str.ofString "_sre"), .str (Str.ofString "_sre") 275, .ref 12⟩, ⟨PyData.keyHash P (Str.ofString "_wall"), .str (Str.ofString "_wall") 288, .ref 38⟩, ⟨PyData.keyHash P (Str.ofString "CRLF"), .str (Str.ofString "CRLF") 290, .str (Str.ofString "\x0d\n") 289⟩, ⟨PyData.keyHash P (Str.ofString "NL"), .str (Str.ofString "NL") 292, .str (Str.ofString "\n") 291⟩, ⟨PyData.keyHash P (Str.ofString "_QUOPRI_MAP"), .str (Str.ofString "_QUOPRI_MAP") 1320, .ref 41⟩, ⟨PyData.keyHash P (Str.ofString "_QUOPRI_HEADER_MAP"), .str (Str.ofString "_QUOPRI_HEADER_MAP") 1321, .ref 46⟩, ⟨PyData.keyHash P (Str.ofString "_QUOPRI_BODY_MAP"), .str (Str.ofString "_QUOPRI_BODY_MAP") 1322, .ref 48⟩, ⟨PyData.keyHash P (Str.ofString "ascii_lowercase"), .str (Str.ofString "ascii_lowercase") 1324, .str (Str.ofString "abcdefghijklmnopqrstuvwxyz") 1323⟩, ⟨PyData.keyHash P (Str.ofString "ascii_uppercase"), .str (Str.ofString "ascii_uppercase") 1326, .str (Str.ofString "ABCDEFGHIJKLMNOPQRSTUVWXYZ") 1325⟩, ⟨PyData.keyHash P (Str.ofString "ascii_letters"), .str (Str.ofString "ascii_letters") 1328, .str (Str.ofString "abcdefghijklmnopqrstuvwxyzABCDEFGHIJKLMNOPQRSTUVWXYZ") 1327⟩, ⟨PyData.keyHash P (Str.ofString "digits"), .str (Str.ofString "digits") 1330, .str (Str.ofString "0123456789") 1329⟩, ⟨PyData.keyHash P (Str.ofString "hexdigits"), .str (Str.ofString "hexdigits") 1335, .str (Str.ofString "0123456789abcdefABCDEF") 1334⟩, ⟨PyData.keyHash P (Str.ofString "c"), .str (Str.ofString "c") 1346, .int 9 1832⟩] 22, #[]⟩
noncomputable def ov_D_3 (P : Params) : Obj := ⟨.type "dict", none, .dict #[⟨PyData.keyHash P (Str.ofString "__name__"), .str (Str.ofString "__name__") 165, .str (Str.ofString "re") 1939⟩, ⟨PyData.keyHash P (Str.ofString "__doc__"), .str (Str.ofString "__doc__") 166, .none⟩, ⟨PyData.keyHash P (Str.ofString "__package__"), .str (Str.ofString "__package__") 167, .none⟩, ⟨PyData.keyHash P (Str.ofString "__loader__"), .str (Str.ofString "__loader__") 168, .builtin "__main__.__loader__#opaque"⟩, ⟨PyData.keyHash P (Str.ofString "__spec__"), .str (Str.ofString "__spec__") 169, .none⟩, ⟨PyData.keyHash P (Str.ofString "__annotations__"), .str (Str.ofString "__annotations__") 170, .ref 6⟩, ⟨PyData.keyHash P (Str.ofString "__builtins__"), .str (Str.ofString "__builtins__") 171, .ref 4⟩, ⟨PyData.keyHash P (Str.ofString "__file__"), .str (Str.ofString "__file__") 173, .str (Str.ofString "/claim/cut.py") 172⟩, ⟨PyData.keyHash P (Str.ofString "__cached__"), .str (Str.ofString "__cached__") 174, .none⟩, ⟨PyData.keyHash P (Str.ofString "_sre"), .str (Str.ofString "_sre") 275, .ref 12⟩, ⟨PyData.keyHash P (Str.ofString "_wall"), .str (Str.ofString "_wall") 288, .ref 38⟩, ⟨PyData.keyHash P (Str.ofString "CRLF"), .str (Str.ofString "CRLF") 290, .str (Str.ofString "\x0d\n") 289⟩, ⟨PyData.keyHash P (Str.ofString "NL"), .str (Str.ofString "NL") 292, .str (Str.ofString "\n") 291⟩, ⟨PyData.keyHash P (Str.ofString "_QUOPRI_MAP"), .str (Str.ofString "_QUOPRI_MAP") 1320, .ref 41⟩, ⟨PyData.keyHash P (Str.ofString "_QUOPRI_HEADER_MAP"), .str (Str.ofString "_QUOPRI_HEADER_MAP") 1321, .ref 46⟩, ⟨PyData.keyHash P (Str.ofString "_QUOPRI_BODY_MAP"), .str (Str.ofString "_QUOPRI_BODY_MAP") 1322, .ref 48⟩, ⟨PyData.keyHash P (Str.ofString "ascii_lowercase"), .str (Str.ofString "ascii_lowercase") 1324, .str (Str.ofString "abcdefghijklmnopqrstuvwxyz") 1323⟩, ⟨PyData.keyHash P (Str.ofString "ascii_uppercase"), .str (Str.ofString "ascii_uppercase") 1326, .str (Str.ofString "ABCDEFGHIJKLMNOPQRSTUVWXYZ") 1325⟩, ⟨PyData.keyHash P (Str.ofString "ascii_letters"), .str (Str.ofString "ascii_letters") 1328, .str (Str.ofString "abcdefghijklmnopqrstuvwxyzABCDEFGHIJKLMNOPQRSTUVWXYZ") 1327⟩, ⟨PyData.keyHash P (Str.ofString "digits"), .str (Str.ofString "digits") 1330, .str (Str.ofString "0123456789") 1329⟩, ⟨PyData.keyHash P (Str.ofString "hexdigits"), .str (Str.ofString "hexdigits") 1335, .str (Str.ofString "0123456789abcdefABCDEF") 1334⟩, ⟨PyData.keyHash P (Str.ofString "unquote"), .str (Str.ofString "unquote") 1841, .ref 61⟩, ⟨PyData.keyHash P (Str.ofString "quote"), .str (Str.ofString "quote") 1848, .ref 68⟩, ⟨PyData.keyHash P (Str.ofString "_QUOPRI_BODY_ENCODE_MAP"), .str (Str.ofString "_QUOPRI_BODY_ENCODE_MAP") 1849, .ref 70⟩, ⟨PyData.keyHash P (Str.ofString "body_encode"), .str (Str.ofString "body_encode") 1876, .ref 81⟩, ⟨PyData.keyHash P (Str.ofString "decode"), .str (Str.ofString "decode") 1889, .ref 89⟩, ⟨PyData.keyHash P (Str.ofString "_twin_re_1"), .str (Str.ofString "_twin_re_1") 1929, .ref 94⟩, ⟨PyData.keyHash P (Str.ofString "translate"), .str (Str.ofString "translate") 1938, .ref 101⟩] 30, #[]⟩
noncomputable def ov_D_29 (P : Params) : Obj := ⟨.none, none, .fields #[.int 2 0, .int 0 0, .ref 37, .int 21 0, .int 0 0, .ref 60, .int 23 0, .int 0 0, .ref 67, .int 29 0, .int 0 0, .ref 80, .int 67 0, .int 0 0, .ref 88, .int 99 0, .int 0 0, .ref 100], #[]⟩
noncomputable def ov_E_3 (P : Params) : Obj := ⟨.type "dict", none, .dict #[⟨PyData.keyHash P (Str.ofString "__name__"), .str (Str.ofString "__name__") 165, .str (Str.ofString "re") 1939⟩, ⟨PyData.keyHash P (Str.ofString "__doc__"), .str (Str.ofString "__doc__") 166, .none⟩, ⟨PyData.keyHash P (Str.ofString "__package__"), .str (Str.ofString "__package__") 167, .none⟩, ⟨PyData.keyHash P (Str.ofString "__loader__"), .str (Str.ofString "__loader__") 168, .builtin "__main__.__loader__#opaque"⟩, ⟨PyData.keyHash P (Str.ofString "__spec__"), .str (Str.ofString "__spec__") 169, .none⟩, ⟨PyData.keyHash P (Str.ofString "__annotations__"), .str (Str.ofString "__annotations__") 170, .ref 6⟩, ⟨PyData.keyHash P (Str.ofString "__builtins__"), .str (Str.ofString "__builtins__") 171, .ref 4⟩, ⟨PyData.keyHash P (Str.ofString "__file__"), .str (Str.ofString "__file__") 173, .str (Str.ofString "/claim/cut.py") 172⟩, ⟨PyData.keyHash P (Str.ofString "__cached__"), .str (Str.ofString "__cached__") 174, .none⟩, ⟨PyData.keyHash P (Str.ofString "_sre"), .str (Str.ofString "_sre") 275, .ref 12⟩, ⟨PyData.keyHash P (Str.ofString "_wall"), .str (Str.ofString "_wall") 288, .ref 38⟩, ⟨PyData.keyHash P (Str.ofString "CRLF"), .str (Str.ofString "CRLF") 290, .str (Str.ofString "\x0d\n") 289⟩, ⟨PyData.keyHash P (Str.ofString "NL"), .str (Str.ofString "NL") 292, .str (Str.ofString "\n") 291⟩, ⟨PyData.keyHash P (Str.ofString "_QUOPRI_MAP"), .str (Str.ofString "_QUOPRI_MAP") 1320, .ref 41⟩, ⟨PyData.keyHash P (Str.ofString "_QUOPRI_HEADER_MAP"), .str (Str.ofString "_QUOPRI_HEADER_MAP") 1321, .ref 46⟩, ⟨PyData.keyHash P (Str.ofString "_QUOPRI_BODY_MAP"), .str (Str.ofString "_QUOPRI_BODY_MAP") 1322, .ref 48⟩, ⟨PyData.keyHash P (Str.ofString "ascii_lowercase"), .str (Str.ofString "ascii_lowercase") 1324, .str (Str.ofString "abcdefghijklmnopqrstuvwxyz") 1323⟩, ⟨PyData.keyHash P (Str.ofString "ascii_uppercase"), .str (Str.ofString "ascii_uppercase") 1326, .str (Str.ofString "ABCDEFGHIJKLMNOPQRSTUVWXYZ") 1325⟩, ⟨PyData.keyHash P (Str.ofString "ascii_letters"), .str (Str.ofString "ascii_letters") 1328, .str (Str.ofString "abcdefghijklmnopqrstuvwxyzABCDEFGHIJKLMNOPQRSTUVWXYZ") 1327⟩, ⟨PyData.keyHash P (Str.ofString "digits"), .str (Str.ofString "digits") 1330, .str (Str.ofString "0123456789") 1329⟩, ⟨PyData.keyHash P (Str.ofString "hexdigits"), .str (Str.ofString "hexdigits") 1335, .str (Str.ofString "0123456789abcdefABCDEF") 1334⟩, ⟨PyData.keyHash P (Str.ofString "unquote"), .str (Str.ofString "unquote") 1841, .ref 61⟩, ⟨PyData.keyHash P (Str.ofString "quote"), .str (Str.ofString "quote") 1848, .ref 68⟩, ⟨PyData.keyHash P (Str.ofString "_QUOPRI_BODY_ENCODE_MAP"), .str (Str.ofString "_QUOPRI_BODY_ENCODE_MAP") 1849, .ref 70⟩, ⟨PyData.keyHash P (Str.ofString "body_encode"), .str (Str.ofString "body_encode") 1876, .ref 81⟩, ⟨PyData.keyHash P (Str.ofString "decode"), .str (Str.ofString "decode") 1889, .ref 89⟩, ⟨PyData.keyHash P (Str.ofString "_twin_re_1"), .str (Str.ofString "_twin_re_1") 1929, .ref 94⟩, ⟨PyData.keyHash P (Str.ofString "translate"), .str (Str.ofString "translate") 1938, .ref 101⟩, ⟨PyData.keyHash P (Str.ofString "_special_chars_map"), .str (Str.ofString "_special_chars_map") 2086, .ref 103⟩] 31, #[]⟩
noncomputable def ov_F_3 (P : Params) : Obj := ⟨.type "dict", none, .dict #[⟨PyData.keyHash P (Str.ofString "__name__"), .str (Str.ofString "__name__") 165, .str (Str.ofString "abc") 2139⟩, ⟨PyData.keyHash P (Str.ofString "__doc__"), .str (Str.ofString "__doc__") 166, .none⟩, ⟨PyData.keyHash P (Str.ofString "__package__"), .str (Str.ofString "__package__") 167, .none⟩, ⟨PyData.keyHash P (Str.ofString "__loader__"), .str (Str.ofString "__loader__") 168, .builtin "__main__.__loader__#opaque"⟩, ⟨PyData.keyHash P (Str.ofString "__spec__"), .str (Str.ofString "__spec__") 169, .none⟩, ⟨PyData.keyHash P (Str.ofString "__annotations__"), .str (Str.ofString "__annotations__") 170, .ref 6⟩, ⟨PyData.keyHash P (Str.ofString "__builtins__"), .str (Str.ofString "__builtins__") 171, .ref 4⟩, ⟨PyData.keyHash P (Str.ofString "__file__"), .str (Str.ofString "__file__") 173, .str (Str.ofString "/claim/cut.py") 172⟩, ⟨PyData.keyHash P (Str.ofString "__cached__"), .str (Str.ofString "__cached__") 174, .none⟩, ⟨PyData.keyHash P (Str.ofString "_sre"), .str (Str.ofString "_sre") 275, .ref 12⟩, ⟨PyData.keyHash P (Str.ofString "_wall"), .str (Str.ofString "_wall") 288, .ref 38⟩, ⟨PyData.keyHash P (Str.ofString "CRLF"), .str (Str.ofString "CRLF") 290, .str (Str.ofString "\x0d\n") 289⟩, ⟨PyData.keyHash P (Str.ofString "NL"), .str (Str.ofString "NL") 292, .str (Str.ofString "\n") 291⟩, ⟨PyData.keyHash P (Str.ofString "_QUOPRI_MAP"), .str (Str.ofString "_QUOPRI_MAP") 1320, .ref 41⟩, ⟨PyData.keyHash P (Str.ofString "_QUOPRI_HEADER_MAP"), .str (Str.ofString "_QUOPRI_HEADER_MAP") 1321, .ref 46⟩, ⟨PyData.keyHash P (Str.ofString "_QUOPRI_BODY_MAP"), .str (Str.ofString "_QUOPRI_BODY_MAP") 1322, .ref 48⟩, ⟨PyData.keyHash P (Str.ofString "ascii_lowercase"), .str (Str.ofString "ascii_lowercase") 1324, .str (Str.ofString "abcdefghijklmnopqrstuvwxyz") 1323⟩, ⟨PyData.keyHash P (Str.ofString "ascii_uppercase"), .str (Str.ofString "ascii_uppercase") 1326, .str (Str.ofString "ABCDEFGHIJKLMNOPQRSTUVWXYZ") 1325⟩, ⟨PyData.keyHash P (Str.ofString "ascii_letters"), .str (Str.ofString "ascii_letters") 1328, .str (Str.ofString "abcdefghijklmnopqrstuvwxyzABCDEFGHIJKLMNOPQRSTUVWXYZ") 1327⟩, ⟨PyData.keyHash P (Str.ofString "digits"), .str (Str.ofString "digits") 1330, .str (Str.ofString "0123456789") 1329⟩, ⟨PyData.keyHash P (Str.ofString "hexdigits"), .str (Str.ofString "hexdigits") 1335, .str (Str.ofString "0123456789abcdefABCDEF") 1334⟩, ⟨PyData.keyHash P (Str.ofString "unquote"), .str (Str.ofString "unquote") 1841, .ref 61⟩, ⟨PyData.keyHash P (Str.ofString "quote"), .str (Str.ofString "quote") 1848, .ref 68⟩, ⟨PyData.keyHash P (Str.ofString "_QUOPRI_BODY_ENCODE_MAP"), .str (Str.ofString "_QUOPRI_BODY_ENCODE_MAP") 1849, .ref 70⟩, ⟨PyData.keyHash P (Str.ofString "body_encode"), .str (Str.ofString "body_encode") 1876, .ref 81⟩, ⟨PyData.keyHash P (Str.ofString "decode"), .str (Str.ofString "decode") 1889, .ref 89⟩, ⟨PyData.keyHash P (Str.ofString "_twin_re_1"), .str (Str.ofString "_twin_re_1") 1929, .ref 94⟩, ⟨PyData.keyHash P (Str.ofString "translate"), .str (Str.ofString "translate") 1938, .ref 101⟩, ⟨PyData.keyHash P (Str.ofString "_special_chars_map"), .str (Str.ofString "_special_chars_map") 2086, .ref 103⟩, ⟨PyData.keyHash P (Str.ofString "escape"), .str (Str.ofString "escape") 2093, .ref 113⟩, ⟨PyData.keyHash P (Str.ofString "_translate"), .str (Str.ofString "_translate") 2114, .ref 120⟩, ⟨PyData.keyHash P (Str.ofString "_join_translated_parts"), .str (Str.ofString "_join_translated_parts") 2127, .ref 127⟩, ⟨PyData.keyHash P (Str.ofString "_plain_name"), .str (Str.ofString "_plain_name") 2138, .ref 134⟩, ⟨PyData.keyHash P (Str.ofString "ABCMeta"), .str (Str.ofString "ABCMeta") 2164, .ref 151⟩] 36, #[]⟩
noncomputable def ov_F_29 (P : Params) : Obj := ⟨.none, none, .fields #[.int 2 0, .int 0 0, .ref 37, .int 21 0, .int 0 0, .ref 60, .int 23 0, .int 0 0, .ref 67, .int 29 0, .int 0 0, .ref 80, .int 67 0, .int 0 0, .ref 88, .int 99 0, .int 0 0, .ref 100, .int 105 0, .int 0 0, .ref 112, .int 112 0, .int 0 0, .ref 119, .int 174 0, .int 0 0, .ref 126, .int 202 0, .int 0 0, .ref 133, .int 208 0, .int 0 0, .ref 140], #[]⟩
noncomputable def ov_F_151 (P : Params) : Obj := ⟨.type "type", none, .cls { name := Str.ofString "ABCMeta", bases := [.type "type"], mro := [.ref 151, .type "type", .type "object"], ns := 150, qualname := Str.ofString "ABCMeta", hasDict := true, slotNames := [], subclasses := [], abstract := false, collection := none, hasDel := false }, #[(some (.ref 135)), none, (some (.str (Str.ofString "ABCMeta") 2141)), (some (.str (Str.ofString "ABCMeta") 2149)), (some (.builtin "type.__new__")), (some (.bool true))]⟩
noncomputable def ov_h3_3 (P : Params) : Obj := ⟨.type "dict", none, .dict #[⟨PyData.keyHash P (Str.ofString "__name__"), .str (Str.ofString "__name__") 165, .str (Str.ofString "__main__") 164⟩, ⟨PyData.keyHash P (Str.ofString "__doc__"), .str (Str.ofString "__doc__") 166, .none⟩, ⟨PyData.keyHash P (Str.ofString "__package__"), .str (Str.ofString "__package__") 167, .none⟩, ⟨PyData.keyHash P (Str.ofString "__loader__"), .str (Str.ofString "__loader__") 168, .builtin "__main__.__loader__#opaque"⟩, ⟨PyData.keyHash P (Str.ofString "__spec__"), .str (Str.ofString "__spec__") 169, .none⟩, ⟨PyData.keyHash P (Str.ofString "__annotations__"), .str (Str.ofString "__annotations__") 170, .ref 6⟩, ⟨PyData.keyHash P (Str.ofString "__builtins__"), .str (Str.ofString "__builtins__") 171, .ref 4⟩, ⟨PyData.keyHash P (Str.ofString "__file__"), .str (Str.ofString "__file__") 173, .str (Str.ofString "/claim/cut.py") 172⟩, ⟨PyData.keyHash P (Str.ofString "__cached__"), .str (Str.ofString "__cached__") 174, .none⟩, ⟨PyData.keyHash P (Str.ofString "_sre"), .str (Str.ofString "_sre") 275, .ref 12⟩, ⟨PyData.keyHash P (Str.ofString "_wall"), .str (Str.ofString "_wall") 288, .ref 38⟩, ⟨PyData.keyHash P (Str.ofString "CRLF"), .str (Str.ofString "CRLF") 290, .str (Str.ofString "\x0d\n") 289⟩, ⟨PyData.keyHash P (Str.ofString "NL"), .str (Str.ofString "NL") 292, .str (Str.ofString "\n") 291⟩] 13, #[]⟩
noncomputable def hd.heap_39 : Params → Frag := fun P => ((nat_lit 2, ⟨.none, none, .dict #[⟨PyData.keyHash P (Str.ofString "\x69mport.loaded._sre"), .str (Str.ofString "\x69mport.loaded._sre") 183, .bool true⟩, ⟨PyData.keyHash P (Str.ofString "class._frozen_importlib.BuiltinImporter"), .str (Str.ofString "class._frozen_importlib.BuiltinImporter") 185, .ref 14⟩, ⟨PyData.keyHash P (Str.ofString "watched.\x69mport"), .str (Str.ofString "watched.\x69mport") 206, .ref 18⟩, ⟨PyData.keyHash P (Str.ofString "class._frozen_importlib.ModuleSpec"), .str (Str.ofString "class._frozen_importlib.ModuleSpec") 216, .ref 22⟩, ⟨PyData.keyHash P (Str.ofString "sys.modules.booked-epoch"), .str (Str.ofString "sys.modules.booked-epoch") 245, .int 3 0⟩, ⟨PyData.keyHash P (Str.ofString "\x69mport.later-laid._sre"), .str (Str.ofString "\x69mport.later-laid._sre") 270, .bool true⟩, ⟨PyData.keyHash P (Str.ofString "watched.library"), .str (Str.ofString "watched.library") 272, .ref 27⟩, ⟨PyData.keyHash P (Str.ofString "watched.library-objects"), .str (Str.ofString "watched.library-objects") 0, .str (Str.ofString "\x0c") 0⟩, ⟨PyData.keyHash P (Str.ofString "watched.library-deep._sre"), .str (Str.ofString "watched.library-deep._sre") 273, .str (Str.ofString "\x04\x00\x00\x0b\x04\x00\x00\x0b\x04\x00\x00\x03\x04\x00\x00\x0b\x08\x04dict\x02") 0⟩] 9, #[]⟩) :: (nat_lit 3, ⟨.type "dict", none, .dict #[⟨PyData.keyHash P (Str.ofString "__name__"), .str (Str.ofString "__name__") 165, .str (Str.ofString "law_rt0056_01") 2253⟩, ⟨PyData.keyHash P (Str.ofString "__doc__"), .str (Str.ofString "__doc__") 166, .none⟩, ⟨PyData.keyHash P (Str.ofString "__package__"), .str (Str.ofString "__package__") 167, .none⟩, ⟨PyData.keyHash P (Str.ofString "__loader__"), .str (Str.ofString "__loader__") 168, .builtin "__main__.__loader__#opaque"⟩, ⟨PyData.keyHash P (Str.ofString "__spec__"), .str (Str.ofString "__spec__") 169, .none⟩, ⟨PyData.keyHash P (Str.ofString "__annotations__"), .str (Str.ofString "__annotations__") 170, .ref 6⟩, ⟨PyData.keyHash P (Str.ofString "__builtins__"), .str (Str.ofString "__builtins__") 171, .ref 4⟩, ⟨PyData.keyHash P (Str.ofString "__file__"), .str (Str.ofString "__file__") 173, .str (Str.ofString "/claim/cut.py") 172⟩, ⟨PyData.keyHash P (Str.ofString "__cached__"), .str (Str.ofString "__cached__") 174, .none⟩, ⟨PyData.keyHash P (Str.ofString "_sre"), .str (Str.ofString "_sre") 275, .ref 12⟩, ⟨PyData.keyHash P (Str.ofString "_wall"), .str (Str.ofString "_wall") 288, .ref 38⟩, ⟨PyData.keyHash P (Str.ofString "CRLF"), .str (Str.ofString "CRLF") 290, .str (Str.ofString "\x0d\n") 289⟩, ⟨PyData.keyHash P (Str.ofString "NL"), .str (Str.ofString "NL") 292, .str (Str.ofString "\n") 291⟩, ⟨PyData.keyHash P (Str.ofString "_QUOPRI_MAP"), .str (Str.ofString "_QUOPRI_MAP") 1320, .ref 41⟩, ⟨PyData.keyHash P (Str.ofString "_QUOPRI_HEADER_MAP"), .str (Str.ofString "_QUOPRI_HEADER_MAP") 1321, .ref 46⟩, ⟨PyData.keyHash P (Str.ofString "_QUOPRI_BODY_MAP"), .str (Str.ofString "_QUOPRI_BODY_MAP") 1322, .ref 48⟩, ⟨PyData.keyHash P (Str.ofString "ascii_lowercase"), .str (Str.ofString "ascii_lowercase") 1324, .str (Str.ofString "abcdefghijklmnopqrstuvwxyz") 1323⟩, ⟨PyData.keyHash P (Str.ofString "ascii_uppercase"), .str (Str.ofString "ascii_uppercase") 1326, .str (Str.ofString "ABCDEFGHIJKLMNOPQRSTUVWXYZ") 1325⟩, ⟨PyData.keyHash P (Str.ofString "ascii_letters"), .str (Str.ofString "ascii_letters") 1328, .str (Str.ofString "abcdefghijklmnopqrstuvwxyzABCDEFGHIJKLMNOPQRSTUVWXYZ") 1327⟩, ⟨PyData.keyHash P (Str.ofString "digits"), .str (Str.ofString "digits") 1330, .str (Str.ofString "0123456789") 1329⟩, ⟨PyData.keyHash P (Str.ofString "hexdigits"), .str (Str.ofString "hexdigits") 1335, .str (Str.ofString "0123456789abcdefABCDEF") 1334⟩, ⟨PyData.keyHash P (Str.ofString "unquote"), .str (Str.ofString "unquote") 1841, .ref 61⟩, ⟨PyData.keyHash P (Str.ofString "quote"), .str (Str.ofString "quote") 1848, .ref 68⟩, ⟨PyData.keyHash P (Str.ofString "_QUOPRI_BODY_ENCODE_MAP"), .str (Str.ofString "_QUOPRI_BODY_ENCODE_MAP") 1849, .ref 70⟩, ⟨PyData.keyHash P (Str.ofString "body_encode"), .str (Str.ofString "body_encode") 1876, .ref 81⟩, ⟨PyData.keyHash P (Str.ofString "decode"), .str (Str.ofString "decode") 1889, .ref 89⟩, ⟨PyData.keyHash P (Str.ofString "_twin_re_1"), .str (Str.ofString "_twin_re_1") 1929, .ref 94⟩, ⟨PyData.keyHash P (Str.ofString "translate"), .str (Str.ofString "translate") 1938, .ref 101⟩, ⟨PyData.keyHash P (Str.ofString "_special_chars_map"), .str (Str.ofString "_special_chars_map") 2086, .ref 103⟩, ⟨PyData.keyHash P (Str.ofString "escape"), .str (Str.ofString "escape") 2093, .ref 113⟩, ⟨PyData.keyHash P (Str.ofString "_translate"), .str (Str.ofString "_translate") 2114, .ref 120⟩, ⟨PyData.keyHash P (Str.ofString "_join_translated_parts"), .str (Str.ofString "_join_translated_parts") 2127, .ref 127⟩, ⟨PyData.keyHash P (Str.ofString "_plain_name"), .str (Str.ofString "_plain_name") 2138, .ref 134⟩, ⟨PyData.keyHash P (Str.ofString "ABCMeta"), .str (Str.ofString "ABCMeta") 2164, .ref 151⟩, ⟨PyData.keyHash P (Str.ofString "_ABCLike"), .str (Str.ofString "_ABCLike") 2207, .ref 184⟩, ⟨PyData.keyHash P (Str.ofString "_abc_plain_meta"), .str (Str.ofString "_abc_plain_meta") 2214, .ref 193⟩, ⟨PyData.keyHash P (Str.ofString "fspath"), .str (Str.ofString "fspath") 2226, .ref 200⟩, ⟨PyData.keyHash P (Str.ofString "splitroot"), .str (Str.ofString "splitroot") 2237, .ref 207⟩, ⟨PyData.keyHash P (Str.ofString "normpath"), .str (Str.ofString "normpath") 2252, .ref 214⟩, ⟨PyData.keyHash P (Str.ofString "_law_takes"), .str (Str.ofString "_law_takes") 2268, .ref 221⟩, ⟨PyData.keyHash P (Str.ofString "_law_divided"), .str (Str.ofString "_law_divided") 2274, .ref 226⟩, ⟨PyData.keyHash P (Str.ofString "law"), .str (Str.ofString "law") 2280, .ref 231⟩] 44, #[]⟩) :: (nat_lit 32, ⟨.type "tuple", none, .seq #[] 0, #[]⟩) :: (nat_lit 34, ⟨.type "tuple", none, .seq #[.str (Str.ofString "k") 285] 0, #[]⟩) :: (nat_lit 35, ⟨.type "tuple", none, .seq #[] 0, #[]⟩) :: (nat_lit 37, ⟨.type "code", none, .fields #[.str (Str.ofString "_wall") 282, .str (Str.ofString "_wall") 283, .str (Str.ofString "/claim/cut.py") 284, .int 2 0, .int 1 0, .int 0 0, .int 0 0, .int 3 0, .ref 32, .bool true, .int 276 0, .ref 33, .none, .ref 34, .ref 35, .ref 36, .int 286 0, .int 2 0, .str (Str.ofString "/claim/cut.py") 287], #[]⟩) :: (nat_lit 38, ⟨.type "function", none, .func { name := Str.ofString "_wall", qualname := Str.ofString "_wall", params := litA (s := (st 0)) rfl, body := .stmts (litB (s := (st 0)) rfl), scope := litS (s := (st 0)) rfl, globals := 3, closure := [], defaults := .none, kwdefaults := .none, doc := .none, pyModule := .str (Str.ofString "__main__") 164, annotations := none, code := .ref 37, closureTuple := .none, builtins := 0 }, #[]⟩) :: (nat_lit 41, ⟨.type "list", none, .seq (List.toArray (.str (Str.ofString "=00") 299 :: .str (Str.ofString "=01") 303 :: .str (Str.ofString "=02") 307 :: .str (Str.ofString "=03") 311 :: .str (Str.ofString "=04") 315 :: .str (Str.ofString "=05") 319 :: .str (Str.ofString "=06") 323 :: .str (Str.ofString "=07") 327 :: .str (Str.ofString "=08") 331 :: .str (Str.ofString "=09") 335 :: .str (Str.ofString "=0A") 339 :: .str (Str.ofString "=0B") 343 :: .str (Str.ofString "=0C") 347 :: .str (Str.ofString "=0D") 351 :: .str (Str.ofString "=0E") 355 :: .str (Str.ofString "=0F") 359 :: .str (Str.ofString "=10") 363 :: .str (Str.ofString "=11") 367 :: .str (Str.ofString "=12") 371 :: .str (Str.ofString "=13") 375 :: .str (Str.ofString "=14") 379 :: .str (Str.ofString "=15") 383 :: .str (Str.ofString "=16") 387 :: .str (Str.ofString "=17") 391 :: .str (Str.ofString "=18") 395 :: .str (Str.ofString "=19") 399 :: .str (Str.ofString "=1A") 403 :: .str (Str.ofString "=1B") 407 :: .str (Str.ofString "=1C") 411 :: .str (Str.ofString "=1D") 415 :: .str (Str.ofString "=1E") 419 :: .str (Str.ofString "=1F") 423 :: .str (Str.ofString "=20") 427 :: .str (Str.ofString "=21") 431 :: .str (Str.ofString "=22") 435 :: .str (Str.ofString "=23") 439 :: .str (Str.ofString "=24") 443 :: .str (Str.ofString "=25") 447 :: .str (Str.ofString "=26") 451 :: .str (Str.ofString "=27") 455 :: .str (Str.ofString "=28") 459 :: .str (Str.ofString "=29") 463 :: .str (Str.ofString "=2A") 467 :: .str (Str.ofString "=2B") 471 :: .str (Str.ofString "=2C") 475 :: .str (Str.ofString "=2D") 479 :: .str (Str.ofString "=2E") 483 :: .str (Str.ofString "=2F") 487 :: .str (Str.ofString "=30") 491 :: .str (Str.ofString "=31") 495 :: .str (Str.ofString "=32") 499 :: .str (Str.ofString "=33") 503 :: .str (Str.ofString "=34") 507 :: .str (Str.ofString "=35") 511 :: .str (Str.ofString "=36") 515 :: .str (Str.ofString "=37") 519 :: .str (Str.ofString "=38") 523 :: .str (Str.ofString "=39") 527 :: .str (Str.ofString "=3A") 531 :: .str (Str.ofString "=3B") 535 :: .str (Str.ofString "=3C") 539 :: .str (Str.ofString "=3D") 543 :: .str (Str.ofString "=3E") 547 :: .str (Str.ofString "=3F") 551 :: .str (Str.ofString "=40") 555 :: .str (Str.ofString "=41") 559 :: .str (Str.ofString "=42") 563 :: .str (Str.ofString "=43") 567 :: .str (Str.ofString "=44") 571 :: .str (Str.ofString "=45") 575 :: .str (Str.ofString "=46") 579 :: .str (Str.ofString "=47") 583 :: .str (Str.ofString "=48") 587 :: .str (Str.ofString "=49") 591 :: .str (Str.ofString "=4A") 595 :: .str (Str.ofString "=4B") 599 :: .str (Str.ofString "=4C") 603 :: .str (Str.ofString "=4D") 607 :: .str (Str.ofString "=4E") 611 :: .str (Str.ofString "=4F") 615 :: .str (Str.ofString "=50") 619 :: .str (Str.ofString "=51") 623 :: .str (Str.ofString "=52") 627 :: .str (Str.ofString "=53") 631 :: .str (Str.ofString "=54") 635 :: .str (Str.ofString "=55") 639 :: .str (Str.ofString "=56") 643 :: .str (Str.ofString "=57") 647 :: .str (Str.ofString "=58") 651 :: .str (Str.ofString "=59") 655 :: .str (Str.ofString "=5A") 659 :: .str (Str.ofString "=5B") 663 :: .str (Str.ofString "=5C") 667 :: .str (Str.ofString "=5D") 671 :: .str (Str.ofString "=5E") 675 :: .str (Str.ofString "=5F") 679 :: .str (Str.ofString "=60") 683 :: .str (Str.ofString "=61") 687 :: .str (Str.ofString "=62") 691 :: .str (Str.ofString "=63") 695 :: .str (Str.ofString "=64") 699 :: .str (Str.ofString "=65") 703 :: .str (Str.ofString "=66") 707 :: .str (Str.ofString "=67") 711 :: .str (Str.ofString "=68") 715 :: .str (Str.ofString "=69") 719 :: .str (Str.ofString "=6A") 723 :: .str (Str.ofString "=6B") 727 :: .str (Str.ofString "=6C") 731 :: .str (Str.ofString "=6D") 735 :: .str (Str.ofString "=6E") 739 :: .str (Str.ofString "=6F") 743 :: .str (Str.ofString "=70") 747 :: .str (Str.ofString "=71") 751 :: .str (Str.ofString "=72") 755 :: .str (Str.ofString "=73") 759 :: .str (Str.ofString "=74") 763 :: .str (Str.ofString "=75") 767 :: .str (Str.ofString "=76") 771 :: .str (Str.ofString "=77") 775 :: .str (Str.ofString "=78") 779 :: .str (Str.ofString "=79") 783 :: .str (Str.ofString "=7A") 787 :: .str (Str.ofString "=7B") 791 :: .str (Str.ofString "=7C") 795 :: .str (Str.ofString "=7D") 799 :: .str (Str.ofString "=7E") 803 :: .str (Str.ofString "=7F") 807 :: .str (Str.ofString "=80") 811 :: .str (Str.ofString "=81") 815 :: .str (Str.ofString "=82") 819 :: .str (Str.ofString "=83") 823 :: .str (Str.ofString "=84") 827 :: .str (Str.ofString "=85") 831 :: .str (Str.ofString "=86") 835 :: .str (Str.ofString "=87") 839 :: .str (Str.ofString "=88") 843 :: .str (Str.ofString "=89") 847 :: .str (Str.ofString "=8A") 851 :: .str (Str.ofString "=8B") 855 :: .str (Str.ofString "=8C") 859 :: .str (Str.ofString "=8D") 863 :: .str (Str.ofString "=8E") 867 :: .str (Str.ofString "=8F") 871 :: .str (Str.ofString "=90") 875 :: .str (Str.ofString "=91") 879 :: .str (Str.ofString "=92") 883 :: .str (Str.ofString "=93") 887 :: .str (Str.ofString "=94") 891 :: .str (Str.ofString "=95") 895 :: .str (Str.ofString "=96") 899 :: .str (Str.ofString "=97") 903 :: .str (Str.ofString "=98") 907 :: .str (Str.ofString "=99") 911 :: .str (Str.ofString "=9A") 915 :: .str (Str.ofString "=9B") 919 :: .str (Str.ofString "=9C") 923 :: .str (Str.ofString "=9D") 927 :: .str (Str.ofString "=9E") 931 :: .str (Str.ofString "=9F") 935 :: .str (Str.ofString "=A0") 939 :: .str (Str.ofString "=A1") 943 :: .str (Str.ofString "=A2") 947 :: .str (Str.ofString "=A3") 951 :: .str (Str.ofString "=A4") 955 :: .str (Str.ofString "=A5") 959 :: .str (Str.ofString "=A6") 963 :: .str (Str.ofString "=A7") 967 :: .str (Str.ofString "=A8") 971 :: .str (Str.ofString "=A9") 975 :: .str (Str.ofString "=AA") 979 :: .str (Str.ofString "=AB") 983 :: .str (Str.ofString "=AC") 987 :: .str (Str.ofString "=AD") 991 :: .str (Str.ofString "=AE") 995 :: .str (Str.ofString "=AF") 999 :: .str (Str.ofString "=B0") 1003 :: .str (Str.ofString "=B1") 1007 :: .str (Str.ofString "=B2") 1011 :: .str (Str.ofString "=B3") 1015 :: .str (Str.ofString "=B4") 1019 :: .str (Str.ofString "=B5") 1023 :: .str (Str.ofString "=B6") 1027 :: .str (Str.ofString "=B7") 1031 :: .str (Str.ofString "=B8") 1035 :: .str (Str.ofString "=B9") 1039 :: .str (Str.ofString "=BA") 1043 :: .str (Str.ofString "=BB") 1047 :: .str (Str.ofString "=BC") 1051 :: .str (Str.ofString "=BD") 1055 :: .str (Str.ofString "=BE") 1059 :: .str (Str.ofString "=BF") 1063 :: .str (Str.ofString "=C0") 1067 :: .str (Str.ofString "=C1") 1071 :: .str (Str.ofString "=C2") 1075 :: .str (Str.ofString "=C3") 1079 :: .str (Str.ofString "=C4") 1083 :: .str (Str.ofString "=C5") 1087 :: .str (Str.ofString "=C6") 1091 :: .str (Str.ofString "=C7") 1095 :: .str (Str.ofString "=C8") 1099 :: .str (Str.ofString "=C9") 1103 :: .str (Str.ofString "=CA") 1107 :: .str (Str.ofString "=CB") 1111 :: .str (Str.ofString "=CC") 1115 :: .str (Str.ofString "=CD") 1119 :: .str (Str.ofString "=CE") 1123 :: .str (Str.ofString "=CF") 1127 :: .str (Str.ofString "=D0") 1131 :: .str (Str.ofString "=D1") 1135 :: .str (Str.ofString "=D2") 1139 :: .str (Str.ofString "=D3") 1143 :: .str (Str.ofString "=D4") 1147 :: .str (Str.ofString "=D5") 1151 :: .str (Str.ofString "=D6") 1155 :: .str (Str.ofString "=D7") 1159 :: .str (Str.ofString "=D8") 1163 :: .str (Str.ofString "=D9") 1167 :: .str (Str.ofString "=DA") 1171 :: .str (Str.ofString "=DB") 1175 :: .str (Str.ofString "=DC") 1179 :: .str (Str.ofString "=DD") 1183 :: .str (Str.ofString "=DE") 1187 :: .str (Str.ofString "=DF") 1191 :: .str (Str.ofString "=E0") 1195 :: .str (Str.ofString "=E1") 1199 :: .str (Str.ofString "=E2") 1203 :: .str (Str.ofString "=E3") 1207 :: .str (Str.ofString "=E4") 1211 :: .str (Str.ofString "=E5") 1215 :: .str (Str.ofString "=E6") 1219 :: .str (Str.ofString "=E7") 1223 :: .str (Str.ofString "=E8") 1227 :: .str (Str.ofString "=E9") 1231 :: .str (Str.ofString "=EA") 1235 :: .str (Str.ofString "=EB") 1239 :: .str (Str.ofString "=EC") 1243 :: .str (Str.ofString "=ED") 1247 :: .str (Str.ofString "=EE") 1251 :: .str (Str.ofString "=EF") 1255 :: .str (Str.ofString "=F0") 1259 :: .str (Str.ofString "=F1") 1263 :: .str (Str.ofString "=F2") 1267 :: .str (Str.ofString "=F3") 1271 :: .str (Str.ofString "=F4") 1275 :: .str (Str.ofString "=F5") 1279 :: .str (Str.ofString "=F6") 1283 :: .str (Str.ofString "=F7") 1287 :: .str (Str.ofString "=F8") 1291 :: .str (Str.ofString "=F9") 1295 :: .str (Str.ofString "=FA") 1299 :: .str (Str.ofString "=FB") 1303 :: .str (Str.ofString "=FC") 1307 :: .str (Str.ofString "=FD") 1311 :: .str (Str.ofString "=FE") 1315 :: .str (Str.ofString "=FF") 1319 :: [])) 256, #[]⟩) :: (nat_lit 55, ⟨.type "tuple", none, .seq #[] 0, #[]⟩) :: (nat_lit 57, ⟨.type "tuple", none, .seq #[.str (Str.ofString "s") 1838] 0, #[]⟩) :: (nat_lit 58, ⟨.type "tuple", none, .seq #[] 0, #[]⟩) :: (nat_lit 60, ⟨.type "code", none, .fields #[.str (Str.ofString "unquote") 1835, .str (Str.ofString "unquote") 1836, .str (Str.ofString "/claim/cut.py") 1837, .int 21 0, .int 1 0, .int 0 0, .int 0 0, .int 3 0, .ref 55, .bool true, .int 276 0, .ref 56, .none, .ref 57, .ref 58, .ref 59, .int 1839 0, .int 21 0, .str (Str.ofString "/claim/cut.py") 1840], #[]⟩) :: (nat_lit 61, ⟨.type "function", none, .func { name := Str.ofString "unquote", qualname := Str.ofString "unquote", params := litA (s := (st 15)) rfl, body := .stmts (litB (s := (st 15)) rfl), scope := litS (s := (st 15)) rfl, globals := 3, closure := [], defaults := .none, kwdefaults := .none, doc := .none, pyModule := .str (Str.ofString "cpy313.email.quoprimime") 1336, annotations := none, code := .ref 60, closureTuple := .none, builtins := 0 }, #[]⟩) :: (nat_lit 62, ⟨.type "tuple", none, .seq #[] 0, #[]⟩) :: (nat_lit 64, ⟨.type "tuple", none, .seq #[.str (Str.ofString "c") 1845] 0, #[]⟩) :: (nat_lit 65, ⟨.type "tuple", none, .seq #[] 0, #[]⟩) :: (nat_lit 67, ⟨.type "code", none, .fields #[.str (Str.ofString "quote") 1842, .str (Str.ofString "quote") 1843, .str (Str.ofString "/claim/cut.py") 1844, .int 23 0, .int 1 0, .int 0 0, .int 0 0, .int 3 0, .ref 62, .bool true, .int 276 0, .ref 63, .none, .ref 64, .ref 65, .ref 66, .int 1846 0, .int 23 0, .str (Str.ofString "/claim/cut.py") 1847], #[]⟩) :: (nat_lit 68, ⟨.type "function", none, .func { name := Str.ofString "quote", qualname := Str.ofString "quote", params := litA (s := (st 16)) rfl, body := .stmts (litB (s := (st 16)) rfl), scope := litS (s := (st 16)) rfl, globals := 3, closure := [], defaults := .none, kwdefaults := .none, doc := .none, pyModule := .str (Str.ofString "cpy313.email.quoprimime") 1336, annotations := none, code := .ref 67, closureTuple := .none, builtins := 0 }, #[]⟩) :: (nat_lit 70, ⟨.type "list", none, .seq (List.toArray (.str (Str.ofString "=00") 299 :: .str (Str.ofString "=01") 303 :: .str (Str.ofString "=02") 307 :: .str (Str.ofString "=03") 311 :: .str (Str.ofString "=04") 315 :: .str (Str.ofString "=05") 319 :: .str (Str.ofString "=06") 323 :: .str (Str.ofString "=07") 327 :: .str (Str.ofString "=08") 331 :: .str (Str.ofString "\t") 1834 :: .str (Str.ofString "\n") 1856 :: .str (Str.ofString "=0B") 343 :: .str (Str.ofString "=0C") 347 :: .str (Str.ofString "\x0d") 1853 :: .str (Str.ofString "=0E") 355 :: .str (Str.ofString "=0F") 359 :: .str (Str.ofString "=10") 363 :: .str (Str.ofString "=11") 367 :: .str (Str.ofString "=12") 371 :: .str (Str.ofString "=13") 375 :: .str (Str.ofString "=14") 379 :: .str (Str.ofString "=15") 383 :: .str (Str.ofString "=16") 387 :: .str (Str.ofString "=17") 391 :: .str (Str.ofString "=18") 395 :: .str (Str.ofString "=19") 399 :: .str (Str.ofString "=1A") 403 :: .str (Str.ofString "=1B") 407 :: .str (Str.ofString "=1C") 411 :: .str (Str.ofString "=1D") 415 :: .str (Str.ofString "=1E") 419 :: .str (Str.ofString "=1F") 423 :: .str (Str.ofString " ") 1552 :: .str (Str.ofString "!") 1555 :: .str (Str.ofString "\"") 1558 :: .str (Str.ofString "#") 1561 :: .str (Str.ofString "$") 1564 :: .str (Str.ofString "%") 1567 :: .str (Str.ofString "&") 1570 :: .str (Str.ofString "'") 1573 :: .str (Str.ofString "(") 1576 :: .str (Str.ofString ")") 1579 :: .str (Str.ofString "*") 1582 :: .str (Str.ofString "+") 1585 :: .str (Str.ofString ",") 1588 :: .str (Str.ofString "-") 1591 :: .str (Str.ofString ".") 1594 :: .str (Str.ofString "/") 1597 :: .str (Str.ofString "0") 1600 :: .str (Str.ofString "1") 1603 :: .str (Str.ofString "2") 1606 :: .str (Str.ofString "3") 1609 :: .str (Str.ofString "4") 1612 :: .str (Str.ofString "5") 1615 :: .str (Str.ofString "6") 1618 :: .str (Str.ofString "7") 1621 :: .str (Str.ofString "8") 1624 :: .str (Str.ofString "9") 1627 :: .str (Str.ofString ":") 1630 :: .str (Str.ofString ";") 1633 :: .str (Str.ofString "<") 1636 :: .str (Str.ofString "=3D") 543 :: .str (Str.ofString ">") 1639 :: .str (Str.ofString "?") 1642 :: .str (Str.ofString "@") 1645 :: .str (Str.ofString "A") 1648 :: .str (Str.ofString "B") 1651 :: .str (Str.ofString "C") 1654 :: .str (Str.ofString "D") 1657 :: .str (Str.ofString "E") 1660 :: .str (Str.ofString "F") 1663 :: .str (Str.ofString "G") 1666 :: .str (Str.ofString "H") 1669 :: .str (Str.ofString "I") 1672 :: .str (Str.ofString "J") 1675 :: .str (Str.ofString "K") 1678 :: .str (Str.ofString "L") 1681 :: .str (Str.ofString "M") 1684 :: .str (Str.ofString "N") 1687 :: .str (Str.ofString "O") 1690 :: .str (Str.ofString "P") 1693 :: .str (Str.ofString "Q") 1696 :: .str (Str.ofString "R") 1699 :: .str (Str.ofString "S") 1702 :: .str (Str.ofString "T") 1705 :: .str (Str.ofString "U") 1708 :: .str (Str.ofString "V") 1711 :: .str (Str.ofString "W") 1714 :: .str (Str.ofString "X") 1717 :: .str (Str.ofString "Y") 1720 :: .str (Str.ofString "Z") 1723 :: .str (Str.ofString "[") 1726 :: .str (Str.ofString "\\") 1729 :: .str (Str.ofString "]") 1732 :: .str (Str.ofString "^") 1735 :: .str (Str.ofString "_") 1738 :: .str (Str.ofString "`") 1741 :: .str (Str.ofString "a") 1744 :: .str (Str.ofString "b") 1747 :: .str (Str.ofString "c") 1750 :: .str (Str.ofString "d") 1753 :: .str (Str.ofString "e") 1756 :: .str (Str.ofString "f") 1759 :: .str (Str.ofString "g") 1762 :: .str (Str.ofString "h") 1765 :: .str (Str.ofString "i") 1768 :: .str (Str.ofString "j") 1771 :: .str (Str.ofString "k") 1774 :: .str (Str.ofString "l") 1777 :: .str (Str.ofString "m") 1780 :: .str (Str.ofString "n") 1783 :: .str (Str.ofString "o") 1786 :: .str (Str.ofString "p") 1789 :: .str (Str.ofString "q") 1792 :: .str (Str.ofString "r") 1795 :: .str (Str.ofString "s") 1798 :: .str (Str.ofString "t") 1801 :: .str (Str.ofString "u") 1804 :: .str (Str.ofString "v") 1807 :: .str (Str.ofString "w") 1810 :: .str (Str.ofString "x") 1813 :: .str (Str.ofString "y") 1816 :: .str (Str.ofString "z") 1819 :: .str (Str.ofString "{") 1822 :: .str (Str.ofString "|") 1825 :: .str (Str.ofString "}") 1828 :: .str (Str.ofString "~") 1831 :: .str (Str.ofString "=7F") 807 :: .str (Str.ofString "=80") 811 :: .str (Str.ofString "=81") 815 :: .str (Str.ofString "=82") 819 :: .str (Str.ofString "=83") 823 :: .str (Str.ofString "=84") 827 :: .str (Str.ofString "=85") 831 :: .str (Str.ofString "=86") 835 :: .str (Str.ofString "=87") 839 :: .str (Str.ofString "=88") 843 :: .str (Str.ofString "=89") 847 :: .str (Str.ofString "=8A") 851 :: .str (Str.ofString "=8B") 855 :: .str (Str.ofString "=8C") 859 :: .str (Str.ofString "=8D") 863 :: .str (Str.ofString "=8E") 867 :: .str (Str.ofString "=8F") 871 :: .str (Str.ofString "=90") 875 :: .str (Str.ofString "=91") 879 :: .str (Str.ofString "=92") 883 :: .str (Str.ofString "=93") 887 :: .str (Str.ofString "=94") 891 :: .str (Str.ofString "=95") 895 :: .str (Str.ofString "=96") 899 :: .str (Str.ofString "=97") 903 :: .str (Str.ofString "=98") 907 :: .str (Str.ofString "=99") 911 :: .str (Str.ofString "=9A") 915 :: .str (Str.ofString "=9B") 919 :: .str (Str.ofString "=9C") 923 :: .str (Str.ofString "=9D") 927 :: .str (Str.ofString "=9E") 931 :: .str (Str.ofString "=9F") 935 :: .str (Str.ofString "=A0") 939 :: .str (Str.ofString "=A1") 943 :: .str (Str.ofString "=A2") 947 :: .str (Str.ofString "=A3") 951 :: .str (Str.ofString "=A4") 955 :: .str (Str.ofString "=A5") 959 :: .str (Str.ofString "=A6") 963 :: .str (Str.ofString "=A7") 967 :: .str (Str.ofString "=A8") 971 :: .str (Str.ofString "=A9") 975 :: .str (Str.ofString "=AA") 979 :: .str (Str.ofString "=AB") 983 :: .str (Str.ofString "=AC") 987 :: .str (Str.ofString "=AD") 991 :: .str (Str.ofString "=AE") 995 :: .str (Str.ofString "=AF") 999 :: .str (Str.ofString "=B0") 1003 :: .str (Str.ofString "=B1") 1007 :: .str (Str.ofString "=B2") 1011 :: .str (Str.ofString "=B3") 1015 :: .str (Str.ofString "=B4") 1019 :: .str (Str.ofString "=B5") 1023 :: .str (Str.ofString "=B6") 1027 :: .str (Str.ofString "=B7") 1031 :: .str (Str.ofString "=B8") 1035 :: .str (Str.ofString "=B9") 1039 :: .str (Str.ofString "=BA") 1043 :: .str (Str.ofString "=BB") 1047 :: .str (Str.ofString "=BC") 1051 :: .str (Str.ofString "=BD") 1055 :: .str (Str.ofString "=BE") 1059 :: .str (Str.ofString "=BF") 1063 :: .str (Str.ofString "=C0") 1067 :: .str (Str.ofString "=C1") 1071 :: .str (Str.ofString "=C2") 1075 :: .str (Str.ofString "=C3") 1079 :: .str (Str.ofString "=C4") 1083 :: .str (Str.ofString "=C5") 1087 :: .str (Str.ofString "=C6") 1091 :: .str (Str.ofString "=C7") 1095 :: .str (Str.ofString "=C8") 1099 :: .str (Str.ofString "=C9") 1103 :: .str (Str.ofString "=CA") 1107 :: .str (Str.ofString "=CB") 1111 :: .str (Str.ofString "=CC") 1115 :: .str (Str.ofString "=CD") 1119 :: .str (Str.ofString "=CE") 1123 :: .str (Str.ofString "=CF") 1127 :: .str (Str.ofString "=D0") 1131 :: .str (Str.ofString "=D1") 1135 :: .str (Str.ofString "=D2") 1139 :: .str (Str.ofString "=D3") 1143 :: .str (Str.ofString "=D4") 1147 :: .str (Str.ofString "=D5") 1151 :: .str (Str.ofString "=D6") 1155 :: .str (Str.ofString "=D7") 1159 :: .str (Str.ofString "=D8") 1163 :: .str (Str.ofString "=D9") 1167 :: .str (Str.ofString "=DA") 1171 :: .str (Str.ofString "=DB") 1175 :: .str (Str.ofString "=DC") 1179 :: .str (Str.ofString "=DD") 1183 :: .str (Str.ofString "=DE") 1187 :: .str (Str.ofString "=DF") 1191 :: .str (Str.ofString "=E0") 1195 :: .str (Str.ofString "=E1") 1199 :: .str (Str.ofString "=E2") 1203 :: .str (Str.ofString "=E3") 1207 :: .str (Str.ofString "=E4") 1211 :: .str (Str.ofString "=E5") 1215 :: .str (Str.ofString "=E6") 1219 :: .str (Str.ofString "=E7") 1223 :: .str (Str.ofString "=E8") 1227 :: .str (Str.ofString "=E9") 1231 :: .str (Str.ofString "=EA") 1235 :: .str (Str.ofString "=EB") 1239 :: .str (Str.ofString "=EC") 1243 :: .str (Str.ofString "=ED") 1247 :: .str (Str.ofString "=EE") 1251 :: .str (Str.ofString "=EF") 1255 :: .str (Str.ofString "=F0") 1259 :: .str (Str.ofString "=F1") 1263 :: .str (Str.ofString "=F2") 1267 :: .str (Str.ofString "=F3") 1271 :: .str (Str.ofString "=F4") 1275 :: .str (Str.ofString "=F5") 1279 :: .str (Str.ofString "=F6") 1283 :: .str (Str.ofString "=F7") 1287 :: .str (Str.ofString "=F8") 1291 :: .str (Str.ofString "=F9") 1295 :: .str (Str.ofString "=FA") 1299 :: .str (Str.ofString "=FB") 1303 :: .str (Str.ofString "=FC") 1307 :: .str (Str.ofString "=FD") 1311 :: .str (Str.ofString "=FE") 1315 :: .str (Str.ofString "=FF") 1319 :: [])) 0, #[]⟩) :: (nat_lit 74, ⟨.type "tuple", none, .seq #[.int 76 1857, .str (Str.ofString "\n") 291] 0, #[]⟩) :: (nat_lit 75, ⟨.type "tuple", none, .seq #[] 0, #[]⟩) :: (nat_lit 77, ⟨.type "tuple", none, .seq #[.str (Str.ofString "body") 1861, .str (Str.ofString "maxlinelen") 1862, .str (Str.ofString "eol") 1863, .str (Str.ofString "soft_break") 1864, .str (Str.ofString "maxlinelen1") 1865, .str (Str.ofString "encoded_body") 1866, .str (Str.ofString "append") 1867, .str (Str.ofString "line") 1868, .str (Str.ofString "start") 1869, .str (Str.ofString "laststart") 1870, .str (Str.ofString "stop") 1871, .str (Str.ofString "room") 1872, .str (Str.ofString "q") 1873] 0, #[]⟩) :: (nat_lit 78, ⟨.type "tuple", none, .seq #[] 0, #[]⟩) :: (nat_lit 80, ⟨.type "code", none, .fields #[.str (Str.ofString "body_encode") 1858, .str (Str.ofString "body_encode") 1859, .str (Str.ofString "/claim/cut.py") 1860, .int 29 0, .int 3 0, .int 0 0, .int 0 0, .int 3 0, .ref 75, .bool true, .int 276 0, .ref 76, .none, .ref 77, .ref 78, .ref 79, .int 1874 0, .int 29 0, .str (Str.ofString "/claim/cut.py") 1875], #[]⟩) :: (nat_lit 81, ⟨.type "function", none, .func { name := Str.ofString "body_encode", qualname := Str.ofString "body_encode", params := litA (s := (st 20)) rfl, body := .stmts (litB (s := (st 20)) rfl), scope := litS (s := (st 20)) rfl, globals := 3, closure := [], defaults := .ref 74, kwdefaults := .none, doc := .none, pyModule := .str (Str.ofString "cpy313.email.quoprimime") 1336, annotations := none, code := .ref 80, closureTuple := .none, builtins := 0 }, #[]⟩) :: (nat_lit 82, ⟨.type "tuple", none, .seq #[.str (Str.ofString "\n") 291] 0, #[]⟩) :: (nat_lit 83, ⟨.type "tuple", none, .seq #[] 0, #[]⟩) :: (nat_lit 85, ⟨.type "tuple", none, .seq #[.str (Str.ofString "encoded") 1880, .str (Str.ofString "eol") 1881, .str (Str.ofString "decoded") 1882, .str (Str.ofString "line") 1883, .str (Str.ofString "i") 1884, .str (Str.ofString "n") 1885, .str (Str.ofString "c") 1886] 0, #[]⟩) :: (nat_lit 86, ⟨.type "tuple", none, .seq #[] 0, #[]⟩) :: (nat_lit 88, ⟨.type "code", none, .fields #[.str (Str.ofString "decode") 1877, .str (Str.ofString "decode") 1878, .str (Str.ofString "/claim/cut.py") 1879, .int 67 0, .int 2 0, .int 0 0, .int 0 0, .int 3 0, .ref 83, .bool true, .int 276 0, .ref 84, .none, .ref 85, .ref 86, .ref 87, .int 1887 0, .int 67 0, .str (Str.ofString "/claim/cut.py") 1888], #[]⟩) :: (nat_lit 89, ⟨.type "function", none, .func { name := Str.ofString "decode", qualname := Str.ofString "decode", params := litA (s := (st 21)) rfl, body := .stmts (litB (s := (st 21)) rfl), scope := litS (s := (st 21)) rfl, globals := 3, closure := [], defaults := .ref 82, kwdefaults := .none, doc := .none, pyModule := .str (Str.ofString "cpy313.email.quoprimime") 1336, annotations := none, code := .ref 88, closureTuple := .none, builtins := 0 }, #[]⟩) :: (nat_lit 93, ⟨.type "tuple", none, .seq #[.int 14 0, .int 14 0, .int 4 0, .int 1 0, .int 1 0, .int 9 0, .int 0 0, .int 64 0, .int 0 0, .int 1342177280 0, .int 0 0, .int 0 0, .int 0 0, .int 0 0, .int 0 0, .int 17 0, .int 0 0, .int 13 0, .int 11 0, .int 9 0, .int 0 0, .int 64 0, .int 0 0, .int 1342177280 0, .int 0 0, .int 0 0, .int 0 0, .int 0 0, .int 0 0, .int 17 0, .int 1 0, .int 1 0] 0, #[]⟩) :: (nat_lit 94, ⟨.type "re.Pattern", none, .fields #[.str (Str.ofString "([&~|])") 1893, .int 32 1928, .int 1 0, .none, .none, .ref 93, .int 0 0], #[]⟩) :: (nat_lit 95, ⟨.type "tuple", none, .seq #[] 0, #[]⟩) :: (nat_lit 97, ⟨.type "tuple", none, .seq #[.str (Str.ofString "pat") 1933, .str (Str.ofString "STAR") 1934, .str (Str.ofString "parts") 1935] 0, #[]⟩) :: (nat_lit 98, ⟨.type "tuple", none, .seq #[] 0, #[]⟩) :: (nat_lit 100, ⟨.type "code", none, .fields #[.str (Str.ofString "translate") 1930, .str (Str.ofString "translate") 1931, .str (Str.ofString "/claim/cut.py") 1932, .int 99 0, .int 1 0, .int 0 0, .int 0 0, .int 3 0, .ref 95, .bool true, .int 276 0, .ref 96, .none, .ref 97, .ref 98, .ref 99, .int 1936 0, .int 99 0, .str (Str.ofString "/claim/cut.py") 1937], #[]⟩) :: (nat_lit 101, ⟨.type "function", none, .func { name := Str.ofString "translate", qualname := Str.ofString "translate", params := litA (s := (st 24)) rfl, body := .stmts (litB (s := (st 24)) rfl), scope := litS (s := (st 24)) rfl, globals := 3, closure := [], defaults := .none, kwdefaults := .none, doc := .none, pyModule := .str (Str.ofString "cpy313.fnmatch") 1890, annotations := none, code := .ref 100, closureTuple := .none, builtins := 0 }, #[]⟩) :: (nat_lit 103, ⟨.type "dict", none, .dict #[⟨40, .int 40 1942, .str (Str.ofString "\\(") 1946⟩, ⟨41, .int 41 1948, .str (Str.ofString "\\)") 1952⟩, ⟨91, .int 91 1954, .str (Str.ofString "\\[") 1958⟩, ⟨93, .int 93 1960, .str (Str.ofString "\\]") 1964⟩, ⟨123, .int 123 1966, .str (Str.ofString "\\{") 1970⟩, ⟨125, .int 125 1972, .str (Str.ofString "\\}") 1976⟩, ⟨63, .int 63 1978, .str (Str.ofString "\\?") 1982⟩, ⟨42, .int 42 1984, .str (Str.ofString "\\*") 1988⟩, ⟨43, .int 43 1990, .str (Str.ofString "\\+") 1994⟩, ⟨45, .int 45 1996, .str (Str.ofString "\\-") 2000⟩, ⟨124, .int 124 2002, .str (Str.ofString "\\|") 2006⟩, ⟨94, .int 94 2008, .str (Str.ofString "\\^") 2012⟩, ⟨36, .int 36 2014, .str (Str.ofString "\\$") 2018⟩, ⟨92, .int 92 2020, .str (Str.ofString "\\\\") 2024⟩, ⟨46, .int 46 2026, .str (Str.ofString "\\.") 2030⟩, ⟨38, .int 38 2032, .str (Str.ofString "\\&") 2036⟩, ⟨126, .int 126 2038, .str (Str.ofString "\\~") 2042⟩, ⟨35, .int 35 2044, .str (Str.ofString "\\#") 2048⟩, ⟨32, .int 32 2050, .str (Str.ofString "\\ ") 2054⟩, ⟨9, .int 9 2056, .str (Str.ofString "\\\t") 2060⟩, ⟨10, .int 10 2062, .str (Str.ofString "\\\n") 2066⟩, ⟨13, .int 13 2068, .str (Str.ofString "\\\x0d") 2072⟩, ⟨11, .int 11 2074, .str (Str.ofString "\\\x0b") 2078⟩, ⟨12, .int 12 2080, .str (Str.ofString "\\\x0c") 2084⟩] 24, #[]⟩) :: (nat_lit 107, ⟨.type "tuple", none, .seq #[] 0, #[]⟩) :: (nat_lit 109, ⟨.type "tuple", none, .seq #[.str (Str.ofString "pattern") 2090] 0, #[]⟩) :: (nat_lit 110, ⟨.type "tuple", none, .seq #[] 0, #[]⟩) :: (nat_lit 112, ⟨.type "code", none, .fields #[.str (Str.ofString "escape") 2087, .str (Str.ofString "escape") 2088, .str (Str.ofString "/claim/cut.py") 2089, .int 105 0, .int 1 0, .int 0 0, .int 0 0, .int 3 0, .ref 107, .bool true, .int 276 0, .ref 108, .none, .ref 109, .ref 110, .ref 111, .int 2091 0, .int 105 0, .str (Str.ofString "/claim/cut.py") 2092], #[]⟩) :: (nat_lit 113, ⟨.type "function", none, .func { name := Str.ofString "escape", qualname := Str.ofString "escape", params := litA (s := (st 27)) rfl, body := .stmts (litB (s := (st 27)) rfl), scope := litS (s := (st 27)) rfl, globals := 3, closure := [], defaults := .none, kwdefaults := .none, doc := .none, pyModule := .str (Str.ofString "re") 1939, annotations := none, code := .ref 112, closureTuple := .none, builtins := 0 }, #[]⟩) :: (nat_lit 114, ⟨.type "tuple", none, .seq #[] 0, #[]⟩) :: (nat_lit 116, ⟨.type "tuple", none, .seq #[.str (Str.ofString "pat") 2099, .str (Str.ofString "STAR") 2100, .str (Str.ofString "QUESTION_MARK") 2101, .str (Str.ofString "res") 2102, .str (Str.ofString "add") 2103, .str (Str.ofString "i") 2104, .str (Str.ofString "n") 2105, .str (Str.ofString "c") 2106, .str (Str.ofString "j") 2107, .str (Str.ofString "stuff") 2108, .str (Str.ofString "chunks") 2109, .str (Str.ofString "k") 2110, .str (Str.ofString "chunk") 2111] 0, #[]⟩) :: (nat_lit 117, ⟨.type "tuple", none, .seq #[] 0, #[]⟩) :: (nat_lit 119, ⟨.type "code", none, .fields #[.str (Str.ofString "_translate") 2096, .str (Str.ofString "_translate") 2097, .str (Str.ofString "/claim/cut.py") 2098, .int 112 0, .int 3 0, .int 0 0, .int 0 0, .int 3 0, .ref 114, .bool true, .int 276 0, .ref 115, .none, .ref 116, .ref 117, .ref 118, .int 2112 0, .int 112 0, .str (Str.ofString "/claim/cut.py") 2113], #[]⟩) :: (nat_lit 120, ⟨.type "function", none, .func { name := Str.ofString "_translate", qualname := Str.ofString "_translate", params := litA (s := (st 29)) rfl, body := .stmts (litB (s := (st 29)) rfl), scope := litS (s := (st 29)) rfl, globals := 3, closure := [], defaults := .none, kwdefaults := .none, doc := .none, pyModule := .str (Str.ofString "cpy313.fnmatch") 2094, annotations := none, code := .ref 119, closureTuple := .none, builtins := 0 }, #[]⟩) :: (nat_lit 121, ⟨.type "tuple", none, .seq #[] 0, #[]⟩) :: (nat_lit 123, ⟨.type "tuple", none, .seq #[.str (Str.ofString "inp") 2118, .str (Str.ofString "STAR") 2119, .str (Str.ofString "res") 2120, .str (Str.ofString "add") 2121, .str (Str.ofString "i") 2122, .str (Str.ofString "n") 2123, .str (Str.ofString "fixed") 2124] 0, #[]⟩) :: (nat_lit 124, ⟨.type "tuple", none, .seq #[] 0, #[]⟩) :: (nat_lit 126, ⟨.type "code", none, .fields #[.str (Str.ofString "_join_translated_parts") 2115, .str (Str.ofString "_join_translated_parts") 2116, .str (Str.ofString "/claim/cut.py") 2117, .int 174 0, .int 2 0, .int 0 0, .int 0 0, .int 3 0, .ref 121, .bool true, .int 276 0, .ref 122, .none, .ref 123, .ref 124, .ref 125, .int 2125 0, .int 174 0, .str (Str.ofString "/claim/cut.py") 2126], #[]⟩) :: (nat_lit 127, ⟨.type "function", none, .func { name := Str.ofString "_join_translated_parts", qualname := Str.ofString "_join_translated_parts", params := litA (s := (st 30)) rfl, body := .stmts (litB (s := (st 30)) rfl), scope := litS (s := (st 30)) rfl, globals := 3, closure := [], defaults := .none, kwdefaults := .none, doc := .none, pyModule := .str (Str.ofString "cpy313.fnmatch") 2094, annotations := none, code := .ref 126, closureTuple := .none, builtins := 0 }, #[]⟩) :: (nat_lit 128, ⟨.type "tuple", none, .seq #[] 0, #[]⟩) :: (nat_lit 130, ⟨.type "tuple", none, .seq #[.str (Str.ofString "x") 2133, .str (Str.ofString "what") 2134, .str (Str.ofString "kind") 2135] 0, #[]⟩) :: (nat_lit 131, ⟨.type "tuple", none, .seq #[] 0, #[]⟩) :: (nat_lit 133, ⟨.type "code", none, .fields #[.str (Str.ofString "_plain_name") 2130, .str (Str.ofString "_plain_name") 2131, .str (Str.ofString "/claim/cut.py") 2132, .int 202 0, .int 2 0, .int 0 0, .int 0 0, .int 3 0, .ref 128, .bool true, .int 276 0, .ref 129, .none, .ref 130, .ref 131, .ref 132, .int 2136 0, .int 202 0, .str (Str.ofString "/claim/cut.py") 2137], #[]⟩) :: (nat_lit 134, ⟨.type "function", none, .func { name := Str.ofString "_plain_name", qualname := Str.ofString "_plain_name", params := litA (s := (st 32)) rfl, body := .stmts (litB (s := (st 32)) rfl), scope := litS (s := (st 32)) rfl, globals := 3, closure := [], defaults := .none, kwdefaults := .none, doc := .none, pyModule := .str (Str.ofString "os") 2128, annotations := none, code := .ref 133, closureTuple := .none, builtins := 0 }, #[]⟩) :: (nat_lit 135, ⟨.type "tuple", none, .seq #[.type "type"] 0, #[]⟩) :: (nat_lit 142, ⟨.type "tuple", none, .seq #[] 0, #[]⟩) :: (nat_lit 144, ⟨.type "tuple", none, .seq #[.str (Str.ofString "cls") 2156, .str (Str.ofString "subclass") 2157] 0, #[]⟩) :: (nat_lit 145, ⟨.type "tuple", none, .seq #[] 0, #[]⟩) :: (nat_lit 147, ⟨.type "code", none, .fields #[.str (Str.ofString "register") 2153, .str (Str.ofString "ABCMeta.register") 2154, .str (Str.ofString "/claim/cut.py") 2155, .int 210 0, .int 2 0, .int 0 0, .int 0 0, .int 3 0, .ref 142, .bool true, .int 276 0, .ref 143, .none, .ref 144, .ref 145, .ref 146, .int 2158 0, .int 210 0, .str (Str.ofString "/claim/cut.py") 2159], #[]⟩) :: (nat_lit 148, ⟨.type "function", none, .func { name := Str.ofString "register", qualname := Str.ofString "ABCMeta.register", params := litA (s := (mem (st 34) 0)) rfl, body := .stmts (litB (s := (mem (st 34) 0)) rfl), scope := litS (s := (mem (st 34) 0)) rfl, globals := 3, closure := [], defaults := .none, kwdefaults := .none, doc := .none, pyModule := .str (Str.ofString "abc") 2139, annotations := none, code := .ref 147, closureTuple := .none, builtins := 0 }, #[]⟩) :: (nat_lit 149, ⟨.type "tuple", none, .seq #[] 0, #[]⟩) :: (nat_lit 150, ⟨.type "dict", none, .dict #[⟨PyData.keyHash P (Str.ofString "__module__"), .str (Str.ofString "__module__") 2148, .str (Str.ofString "abc") 2139⟩, ⟨PyData.keyHash P (Str.ofString "__firstlineno__"), .str (Str.ofString "__firstlineno__") 2152, .int 208 2151⟩, ⟨PyData.keyHash P (Str.ofString "register"), .str (Str.ofString "register") 2160, .ref 148⟩, ⟨PyData.keyHash P (Str.ofString "__static_attributes__"), .str (Str.ofString "__static_attributes__") 2161, .ref 149⟩, ⟨PyData.keyHash P (Str.ofString "__doc__"), .str (Str.ofString "__doc__") 2162, .none⟩] 2, #[]⟩) :: (nat_lit 151, ⟨.type "type", none, .cls { name := Str.ofString "ABCMeta", bases := [.type "type"], mro := [.ref 151, .type "type", .type "object"], ns := 150, qualname := Str.ofString "ABCMeta", hasDict := true, slotNames := [], subclasses := [.ref 184], abstract := false, collection := none, hasDel := false }, #[(some (.ref 135)), none, (some (.str (Str.ofString "ABCMeta") 2141)), (some (.str (Str.ofString "ABCMeta") 2149)), (some (.builtin "type.__new__")), (some (.bool true))]⟩) :: (nat_lit 154, ⟨.type "tuple", none, .seq #[.ref 151] 0, #[]⟩) :: (nat_lit 161, ⟨.type "tuple", none, .seq #[] 0, #[]⟩) :: (nat_lit 163, ⟨.type "tuple", none, .seq #[.str (Str.ofString "cls") 2182, .str (Str.ofString "\x69nstance") 2183, .str (Str.ofString "C") 2184] 0, #[]⟩) :: (nat_lit 164, ⟨.type "tuple", none, .seq #[] 0, #[]⟩) :: (nat_lit 166, ⟨.type "code", none, .fields #[.str (Str.ofString "__instancecheck__") 2179, .str (Str.ofString "_ABCLike.__instancecheck__") 2180, .str (Str.ofString "/claim/cut.py") 2181, .int 215 0, .int 2 0, .int 0 0, .int 0 0, .int 3 0, .ref 161, .bool true, .int 276 0, .ref 162, .none, .ref 163, .ref 164, .ref 165, .int 2185 0, .int 215 0, .str (Str.ofString "/claim/cut.py") 2186], #[]⟩) :: (nat_lit 167, ⟨.type "function", none, .func { name := Str.ofString "__instancecheck__", qualname := Str.ofString "_ABCLike.__instancecheck__", params := litA (s := (mem (st 36) 0)) rfl, body := .stmts (litB (s := (mem (st 36) 0)) rfl), scope := litS (s := (mem (st 36) 0)) rfl, globals := 3, closure := [], defaults := .none, kwdefaults := .none, doc := .none, pyModule := .str (Str.ofString "collections.abc") 2165, annotations := none, code := .ref 166, closureTuple := .none, builtins := 0 }, #[]⟩) :: (nat_lit 168, ⟨.type "tuple", none, .seq #[] 0, #[]⟩) :: (nat_lit 170, ⟨.type "tuple", none, .seq #[.str (Str.ofString "cls") 2191, .str (Str.ofString "C") 2192] 0, #[]⟩) :: (nat_lit 171, ⟨.type "tuple", none, .seq #[] 0, #[]⟩) :: (nat_lit 173, ⟨.type "code", none, .fields #[.str (Str.ofString "__subclasscheck__") 2188, .str (Str.ofString "_ABCLike.__subclasscheck__") 2189, .str (Str.ofString "/claim/cut.py") 2190, .int 221 0, .int 2 0, .int 0 0, .int 0 0, .int 3 0, .ref 168, .bool true, .int 276 0, .ref 169, .none, .ref 170, .ref 171, .ref 172, .int 2193 0, .int 221 0, .str (Str.ofString "/claim/cut.py") 2194], #[]⟩) :: (nat_lit 174, ⟨.type "function", none, .func { name := Str.ofString "__subclasscheck__", qualname := Str.ofString "_ABCLike.__subclasscheck__", params := litA (s := (mem (st 36) 1)) rfl, body := .stmts (litB (s := (mem (st 36) 1)) rfl), scope := litS (s := (mem (st 36) 1)) rfl, globals := 3, closure := [], defaults := .none, kwdefaults := .none, doc := .none, pyModule := .str (Str.ofString "collections.abc") 2165, annotations := none, code := .ref 173, closureTuple := .none, builtins := 0 }, #[]⟩) :: (nat_lit 175, ⟨.type "tuple", none, .seq #[] 0, #[]⟩) :: (nat_lit 177, ⟨.type "tuple", none, .seq #[.str (Str.ofString "cls") 2199, .str (Str.ofString "subclass") 2200] 0, #[]⟩) :: (nat_lit 178, ⟨.type "tuple", none, .seq #[] 0, #[]⟩) :: (nat_lit 180, ⟨.type "code", none, .fields #[.str (Str.ofString "register") 2196, .str (Str.ofString "_ABCLike.register") 2197, .str (Str.ofString "/claim/cut.py") 2198, .int 226 0, .int 2 0, .int 0 0, .int 0 0, .int 3 0, .ref 175, .bool true, .int 276 0, .ref 176, .none, .ref 177, .ref 178, .ref 179, .int 2201 0, .int 226 0, .str (Str.ofString "/claim/cut.py") 2202], #[]⟩) :: (nat_lit 181, ⟨.type "function", none, .func { name := Str.ofString "register", qualname := Str.ofString "_ABCLike.register", params := litA (s := (mem (st 36) 2)) rfl, body := .stmts (litB (s := (mem (st 36) 2)) rfl), scope := litS (s := (mem (st 36) 2)) rfl, globals := 3, closure := [], defaults := .none, kwdefaults := .none, doc := .none, pyModule := .str (Str.ofString "collections.abc") 2165, annotations := none, code := .ref 180, closureTuple := .none, builtins := 0 }, #[]⟩) :: (nat_lit 182, ⟨.type "tuple", none, .seq #[] 0, #[]⟩) :: (nat_lit 183, ⟨.type "dict", none, .dict #[⟨PyData.keyHash P (Str.ofString "__module__"), .str (Str.ofString "__module__") 2174, .str (Str.ofString "collections.abc") 2165⟩, ⟨PyData.keyHash P (Str.ofString "__firstlineno__"), .str (Str.ofString "__firstlineno__") 2178, .int 213 2177⟩, ⟨PyData.keyHash P (Str.ofString "__instancecheck__"), .str (Str.ofString "__instancecheck__") 2187, .ref 167⟩, ⟨PyData.keyHash P (Str.ofString "__subclasscheck__"), .str (Str.ofString "__subclasscheck__") 2195, .ref 174⟩, ⟨PyData.keyHash P (Str.ofString "register"), .str (Str.ofString "register") 2203, .ref 181⟩, ⟨PyData.keyHash P (Str.ofString "__static_attributes__"), .str (Str.ofString "__static_attributes__") 2204, .ref 182⟩, ⟨PyData.keyHash P (Str.ofString "__doc__"), .str (Str.ofString "__doc__") 2205, .none⟩] 2, #[]⟩) :: (nat_lit 184, ⟨.type "type", none, .cls { name := Str.ofString "_ABCLike", bases := [.ref 151], mro := [.ref 184, .ref 151, .type "type", .type "object"], ns := 183, qualname := Str.ofString "_ABCLike", hasDict := true, slotNames := [], subclasses := [], abstract := false, collection := none, hasDel := false }, #[(some (.ref 154)), none, (some (.str (Str.ofString "_ABCLike") 2167)), (some (.str (Str.ofString "_ABCLike") 2175)), (some (.builtin "type.__new__")), (some (.bool true))]⟩) :: (nat_lit 187, ⟨.type "tuple", none, .seq #[] 0, #[]⟩) :: (nat_lit 189, ⟨.type "tuple", none, .seq #[.str (Str.ofString "C") 2211] 0, #[]⟩) :: (nat_lit 190, ⟨.type "tuple", none, .seq #[] 0, #[]⟩) :: (nat_lit 192, ⟨.type "code", none, .fields #[.str (Str.ofString "_abc_plain_meta") 2208, .str (Str.ofString "_abc_plain_meta") 2209, .str (Str.ofString "/claim/cut.py") 2210, .int 228 0, .int 1 0, .int 0 0, .int 0 0, .int 3 0, .ref 187, .bool true, .int 276 0, .ref 188, .none, .ref 189, .ref 190, .ref 191, .int 2212 0, .int 228 0, .str (Str.ofString "/claim/cut.py") 2213], #[]⟩) :: (nat_lit 193, ⟨.type "function", none, .func { name := Str.ofString "_abc_plain_meta", qualname := Str.ofString "_abc_plain_meta", params := litA (s := (st 37)) rfl, body := .stmts (litB (s := (st 37)) rfl), scope := litS (s := (st 37)) rfl, globals := 3, closure := [], defaults := .none, kwdefaults := .none, doc := .none, pyModule := .str (Str.ofString "collections.abc") 2165, annotations := none, code := .ref 192, closureTuple := .none, builtins := 0 }, #[]⟩) :: (nat_lit 194, ⟨.type "tuple", none, .seq #[] 0, #[]⟩) :: (nat_lit 196, ⟨.type "tuple", none, .seq #[.str (Str.ofString "path") 2220, .str (Str.ofString "kind") 2221, .str (Str.ofString "hook") 2222, .str (Str.ofString "given") 2223] 0, #[]⟩) :: (nat_lit 197, ⟨.type "tuple", none, .seq #[] 0, #[]⟩) :: (nat_lit 199, ⟨.type "code", none, .fields #[.str (Str.ofString "fspath") 2217, .str (Str.ofString "fspath") 2218, .str (Str.ofString "/claim/cut.py") 2219, .int 232 0, .int 1 0, .int 0 0, .int 0 0, .int 3 0, .ref 194, .bool true, .int 276 0, .ref 195, .none, .ref 196, .ref 197, .ref 198, .int 2224 0, .int 232 0, .str (Str.ofString "/claim/cut.py") 2225], #[]⟩) :: (nat_lit 200, ⟨.type "function", none, .func { name := Str.ofString "fspath", qualname := Str.ofString "fspath", params := litA (s := (st 39)) rfl, body := .stmts (litB (s := (st 39)) rfl), scope := litS (s := (st 39)) rfl, globals := 3, closure := [], defaults := .none, kwdefaults := .none, doc := .none, pyModule := .str (Str.ofString "os") 2215, annotations := none, code := .ref 199, closureTuple := .none, builtins := 0 }, #[]⟩) :: (nat_lit 201, ⟨.type "tuple", none, .seq #[] 0, #[]⟩) :: (nat_lit 203, ⟨.type "tuple", none, .seq #[.str (Str.ofString "p") 2232, .str (Str.ofString "sep") 2233, .str (Str.ofString "empty") 2234] 0, #[]⟩) :: (nat_lit 204, ⟨.type "tuple", none, .seq #[] 0, #[]⟩) :: (nat_lit 206, ⟨.type "code", none, .fields #[.str (Str.ofString "splitroot") 2229, .str (Str.ofString "splitroot") 2230, .str (Str.ofString "/claim/cut.py") 2231, .int 249 0, .int 1 0, .int 0 0, .int 0 0, .int 3 0, .ref 201, .bool true, .int 276 0, .ref 202, .none, .ref 203, .ref 204, .ref 205, .int 2235 0, .int 249 0, .str (Str.ofString "/claim/cut.py") 2236], #[]⟩) :: (nat_lit 207, ⟨.type "function", none, .func { name := Str.ofString "splitroot", qualname := Str.ofString "splitroot", params := litA (s := (st 41)) rfl, body := .stmts (litB (s := (st 41)) rfl), scope := litS (s := (st 41)) rfl, globals := 3, closure := [], defaults := .none, kwdefaults := .none, doc := .none, pyModule := .str (Str.ofString "cpy313.posixpath") 2227, annotations := none, code := .ref 206, closureTuple := .none, builtins := 0 }, #[]⟩) :: (nat_lit 208, ⟨.type "tuple", none, .seq #[] 0, #[]⟩) :: (nat_lit 210, ⟨.type "tuple", none, .seq #[.str (Str.ofString "path") 2241, .str (Str.ofString "sep") 2242, .str (Str.ofString "dot") 2243, .str (Str.ofString "dotdot") 2244, .str (Str.ofString "_") 2245, .str (Str.ofString "initial_slashes") 2246, .str (Str.ofString "comps") 2247, .str (Str.ofString "new_comps") 2248, .str (Str.ofString "comp") 2249] 0, #[]⟩) :: (nat_lit 211, ⟨.type "tuple", none, .seq #[] 0, #[]⟩) :: (nat_lit 213, ⟨.type "code", none, .fields #[.str (Str.ofString "normpath") 2238, .str (Str.ofString "normpath") 2239, .str (Str.ofString "/claim/cut.py") 2240, .int 263 0, .int 1 0, .int 0 0, .int 0 0, .int 3 0, .ref 208, .bool true, .int 276 0, .ref 209, .none, .ref 210, .ref 211, .ref 212, .int 2250 0, .int 263 0, .str (Str.ofString "/claim/cut.py") 2251], #[]⟩) :: (nat_lit 214, ⟨.type "function", none, .func { name := Str.ofString "normpath", qualname := Str.ofString "normpath", params := litA (s := (st 42)) rfl, body := .stmts (litB (s := (st 42)) rfl), scope := litS (s := (st 42)) rfl, globals := 3, closure := [], defaults := .none, kwdefaults := .none, doc := .none, pyModule := .str (Str.ofString "cpy313.posixpath") 2227, annotations := none, code := .ref 213, closureTuple := .none, builtins := 0 }, #[]⟩) :: (nat_lit 215, ⟨.type "tuple", none, .seq #[] 0, #[]⟩) :: (nat_lit 217, ⟨.type "tuple", none, .seq #[.str (Str.ofString "text") 2258, .str (Str.ofString "row") 2259, .str (Str.ofString "inside") 2260, .str (Str.ofString "gap") 2261, .str (Str.ofString "groups") 2262, .str (Str.ofString "place") 2263, .str (Str.ofString "group") 2264, .str (Str.ofString "found") 2265] 0, #[]⟩) :: (nat_lit 218, ⟨.type "tuple", none, .seq #[] 0, #[]⟩) :: (nat_lit 220, ⟨.type "code", none, .fields #[.str (Str.ofString "_law_takes") 2255, .str (Str.ofString "_law_takes") 2256, .str (Str.ofString "/claim/cut.py") 2257, .int 289 0, .int 2 0, .int 0 0, .int 0 0, .int 3 0, .ref 215, .bool true, .int 276 0, .ref 216, .none, .ref 217, .ref 218, .ref 219, .int 2266 0, .int 289 0, .str (Str.ofString "/claim/cut.py") 2267], #[]⟩) :: (nat_lit 221, ⟨.type "function", none, .func { name := Str.ofString "_law_takes", qualname := Str.ofString "_law_takes", params := litA (s := (st 44)) rfl, body := .stmts (litB (s := (st 44)) rfl), scope := litS (s := (st 44)) rfl, globals := 3, closure := [], defaults := .none, kwdefaults := .none, doc := .none, pyModule := .str (Str.ofString "law_rt0056_01") 2253, annotations := none, code := .ref 220, closureTuple := .none, builtins := 0 }, #[]⟩) :: (nat_lit 222, ⟨.type "tuple", none, .seq #[] 0, #[]⟩) :: (nat_lit 225, ⟨.type "code", none, .fields #[.str (Str.ofString "_law_divided") 2269, .str (Str.ofString "_law_divided") 2270, .str (Str.ofString "/claim/cut.py") 2271, .int 306 0, .int 4 0, .int 0 0, .int 0 0, .int 3 0, .ref 222, .bool true, .int 276 0, .ref 223, .none, .none, .none, .ref 224, .int 2272 0, .int 306 0, .str (Str.ofString "/claim/cut.py") 2273], #[]⟩) :: (nat_lit 226, ⟨.type "function", none, .func { name := Str.ofString "_law_divided", qualname := Str.ofString "_law_divided", params := litA (s := (st 45)) rfl, body := .stmts (litB (s := (st 45)) rfl), scope := litS (s := (st 45)) rfl, globals := 3, closure := [], defaults := .none, kwdefaults := .none, doc := .none, pyModule := .str (Str.ofString "law_rt0056_01") 2253, annotations := none, code := .ref 225, closureTuple := .none, builtins := 0 }, #[]⟩) :: (nat_lit 227, ⟨.type "tuple", none, .seq #[] 0, #[]⟩) :: (nat_lit 230, ⟨.type "code", none, .fields #[.str (Str.ofString "law") 2275, .str (Str.ofString "law") 2276, .str (Str.ofString "/claim/cut.py") 2277, .int 323 0, .int 1 0, .int 0 0, .int 0 0, .int 3 0, .ref 227, .bool true, .int 276 0, .ref 228, .none, .none, .none, .ref 229, .int 2278 0, .int 323 0, .str (Str.ofString "/claim/cut.py") 2279], #[]⟩) :: (nat_lit 231, ⟨.type "function", none, .func { name := Str.ofString "law", qualname := Str.ofString "law", params := litA (s := (st 46)) rfl, body := .stmts (litB (s := (st 46)) rfl), scope := litS (s := (st 46)) rfl, globals := 3, closure := [], defaults := .none, kwdefaults := .none, doc := .none, pyModule := .str (Str.ofString "law_rt0056_01") 2253, annotations := none, code := .ref 230, closureTuple := .none, builtins := 0 }, #[]⟩) :: [])
noncomputable def hp_zero (P : Params) : Heap := ⟨Array.mk [ob_0 P, ob_1 P, ob_2 P, ov_zero_3 P, ob_4 P, ob_5 P, ob_6 P, ob_7 P, ob_8 P, ob_9 P, ob_10 P, ob_11 P, ob_12 P, ob_13 P, ob_14 P, ob_15 P, ob_16 P, ob_17 P, ob_18 P, ob_19 P, ob_20 P, ob_21 P, ob_22 P, ob_23 P, ob_24 P, ob_25 P, ob_26 P, ob_27 P], {}⟩
noncomputable def hp_pre (P : Params) : Heap := ⟨Array.mk [ob_0 P, ob_1 P, ob_2 P, ov_zero_3 P, ob_4 P, ob_5 P, ob_6 P, ob_7 P, ob_8 P, ob_9 P, ob_10 P, ob_11 P, ob_12 P, ob_13 P, ob_14 P, ob_15 P, ob_16 P, ob_17 P, ob_18 P, ob_19 P, ob_20 P, ob_21 P, ob_22 P, ob_23 P, ob_24 P, ob_25 P, ob_26 P, ob_27 P, ob_28 P, ov_pre_29 P, ob_30 P, ob_31 P], {}⟩
noncomputable def hp_fin (P : Params) : Heap := ⟨Array.mk (ob_0 P :: ob_1 P :: ob_2 P :: ob_3 P :: ob_4 P :: ob_5 P :: ob_6 P :: ob_7 P :: ob_8 P :: ob_9 P :: ob_10 P :: ob_11 P :: ob_12 P :: ob_13 P :: ob_14 P :: ob_15 P :: ob_16 P :: ob_17 P :: ob_18 P :: ob_19 P :: ob_20 P :: ob_21 P :: ob_22 P :: ob_23 P :: ob_24 P :: ob_25 P :: ob_26 P :: ob_27 P :: ob_28 P :: ob_29 P :: ob_30 P :: ob_31 P :: ob_32 P :: ob_33 P :: ob_34 P :: ob_35 P :: ob_36 P :: ob_37 P :: ob_38 P :: ob_39 P :: ob_40 P :: ob_41 P :: ob_42 P :: ob_43 P :: ob_44 P :: ob_45 P :: ob_46 P :: ob_47 P :: ob_48 P :: ob_49 P :: ob_50 P :: ob_51 P :: ob_52 P :: ob_53 P :: ob_54 P :: ob_55 P :: ob_56 P :: ob_57 P :: ob_58 P :: ob_59 P :: ob_60 P :: ob_61 P :: ob_62 P :: ob_63 P :: ob_64 P :: ob_65 P :: ob_66 P :: ob_67 P :: ob_68 P :: ob_69 P :: ob_70 P :: ob_71 P :: ob_72 P :: ob_73 P :: ob_74 P :: ob_75 P :: ob_76 P :: ob_77 P :: ob_78 P :: ob_79 P :: ob_80 P :: ob_81 P :: ob_82 P :: ob_83 P :: ob_84 P :: ob_85 P :: ob_86 P :: ob_87 P :: ob_88 P :: ob_89 P :: ob_90 P :: ob_91 P :: ob_92 P :: ob_93 P :: ob_94 P :: ob_95 P :: ob_96 P :: ob_97 P :: ob_98 P :: ob_99 P :: ob_100 P :: ob_101 P :: ob_102 P :: ob_103 P :: ob_104 P :: ob_105 P :: ob_106 P :: ob_107 P :: ob_108 P :: ob_109 P :: ob_110 P :: ob_111 P :: ob_112 P :: ob_113 P :: ob_114 P :: ob_115 P :: ob_116 P :: ob_117 P :: ob_118 P :: ob_119 P :: ob_120 P :: ob_121 P :: ob_122 P :: ob_123 P :: ob_124 P :: ob_125 P :: ob_126 P :: ob_127 P :: ob_128 P :: ob_129 P :: ob_130 P :: ob_131 P :: ob_132 P :: ob_133 P :: ob_134 P :: ob_135 P :: ob_136 P :: ob_137 P :: ob_138 P :: ob_139 P :: ob_140 P :: ob_141 P :: ob_142 P :: ob_143 P :: ob_144 P :: ob_145 P :: ob_146 P :: ob_147 P :: ob_148 P :: ob_149 P :: ob_150 P :: ob_151 P :: ob_152 P :: ob_153 P :: ob_154 P :: ob_155 P :: ob_156 P :: ob_157 P :: ob_158 P :: ob_159 P :: ob_160 P :: ob_161 P :: ob_162 P :: ob_163 P :: ob_164 P :: ob_165 P :: ob_166 P :: ob_167 P :: ob_168 P :: ob_169 P :: ob_170 P :: ob_171 P :: ob_172 P :: ob_173 P :: ob_174 P :: ob_175 P :: ob_176 P :: ob_177 P :: ob_178 P :: ob_179 P :: ob_180 P :: ob_181 P :: ob_182 P :: ob_183 P :: ob_184 P :: ob_185 P :: ob_186 P :: ob_187 P :: ob_188 P :: ob_189 P :: ob_190 P :: ob_191 P :: ob_192 P :: ob_193 P :: ob_194 P :: ob_195 P :: ob_196 P :: ob_197 P :: ob_198 P :: ob_199 P :: ob_200 P :: ob_201 P :: ob_202 P :: ob_203 P :: ob_204 P :: ob_205 P :: ob_206 P :: ob_207 P :: ob_208 P :: ob_209 P :: ob_210 P :: ob_211 P :: ob_212 P :: ob_213 P :: ob_214 P :: ob_215 P :: ob_216 P :: ob_217 P :: ob_218 P :: ob_219 P :: ob_220 P :: ob_221 P :: ob_222 P :: ob_223 P :: ob_224 P :: ob_225 P :: ob_226 P :: ob_227 P :: ob_228 P :: ob_229 P :: ob_230 P :: ob_231 P :: []), {}⟩
noncomputable def tr_block (P : Params) : BT := (.node (ob_0 P) (.node (ob_1 P) (.node (ov_zero_3 P) (.node (ob_7 P) (.node (ob_15 P) (.node (ob_31 P) .nil .nil) .nil) (.node (ob_23 P) .nil .nil)) (.node (ob_11 P) (.node (ob_19 P) .nil .nil) (.node (ob_27 P) .nil .nil))) (.node (ob_5 P) (.node (ob_9 P) (.node (ob_17 P) .nil .nil) (.node (ob_25 P) .nil .nil)) (.node (ob_13 P) (.node (ob_21 P) .nil .nil) (.node (ov_pre_29 P) .nil .nil)))) (.node (ob_2 P) (.node (ob_4 P) (.node (ob_8 P) (.node (ob_16 P) .nil .nil) (.node (ob_24 P) .nil .nil)) (.node (ob_12 P) (.node (ob_20 P) .nil .nil) (.node (ob_28 P) .nil .nil))) (.node (ob_6 P) (.node (ob_10 P) (.node (ob_18 P) .nil .nil) (.node (ob_26 P) .nil .nil)) (.node (ob_14 P) (.node (ob_22 P) .nil .nil) (.node (ob_30 P) .nil .nil)))))
noncomputable def S_block (w : World) (os : OsState) : SharedT := ⟨tr_block w.params, 32, {}, Array.mk [], {}, 282, os⟩
noncomputable def tr_A (P : Params) : BT := (.node (ob_0 P) (.node (ob_1 P) (.node (ov_A_3 P) (.node (ob_7 P) (.node (ob_15 P) (.node (ob_31 P) .nil .nil) .nil) (.node (ob_23 P) (.node (ob_39 P) .nil .nil) .nil)) (.node (ob_11 P) (.node (ob_19 P) (.node (ob_35 P) .nil .nil) .nil) (.node (ob_27 P) (.node (ob_43 P) .nil .nil) .nil))) (.node (ob_5 P) (.node (ob_9 P) (.node (ob_17 P) (.node (ob_33 P) .nil .nil) .nil) (.node (ob_25 P) (.node (ob_41 P) .nil .nil) .nil)) (.node (ob_13 P) (.node (ob_21 P) (.node (ob_37 P) .nil .nil) .nil) (.node (ov_A_29 P) .nil .nil)))) (.node (ob_2 P) (.node (ob_4 P) (.node (ob_8 P) (.node (ob_16 P) (.node (ob_32 P) .nil .nil) .nil) (.node (ob_24 P) (.node (ob_40 P) .nil .nil) .nil)) (.node (ob_12 P) (.node (ob_20 P) (.node (ob_36 P) .nil .nil) .nil) (.node (ob_28 P) (.node (ob_44 P) .nil .nil) .nil))) (.node (ob_6 P) (.node (ob_10 P) (.node (ob_18 P) (.node (ob_34 P) .nil .nil) .nil) (.node (ob_26 P) (.node (ob_42 P) .nil .nil) .nil)) (.node (ob_14 P) (.node (ob_22 P) (.node (ob_38 P) .nil .nil) .nil) (.node (ob_30 P) .nil .nil)))))
noncomputable def S_A (w : World) (os : OsState) : SharedT := ⟨tr_A w.params, 45, {}, Array.mk [], {}, 1321, os⟩
noncomputable def tr_B (P : Params) : BT := (.node (ob_0 P) (.node (ob_1 P) (.node (ov_B_3 P) (.node (ob_7 P) (.node (ob_15 P) (.node (ob_31 P) .nil .nil) (.node (ob_47 P) .nil .nil)) (.node (ob_23 P) (.node (ob_39 P) .nil .nil) .nil)) (.node (ob_11 P) (.node (ob_19 P) (.node (ob_35 P) .nil .nil) (.node (ob_51 P) .nil .nil)) (.node (ob_27 P) (.node (ob_43 P) .nil .nil) .nil))) (.node (ob_5 P) (.node (ob_9 P) (.node (ob_17 P) (.node (ob_33 P) .nil .nil) (.node (ob_49 P) .nil .nil)) (.node (ob_25 P) (.node (ob_41 P) .nil .nil) .nil)) (.node (ob_13 P) (.node (ob_21 P) (.node (ob_37 P) .nil .nil) .nil) (.node (ov_A_29 P) (.node (ob_45 P) .nil .nil) .nil)))) (.node (ob_2 P) (.node (ob_4 P) (.node (ob_8 P) (.node (ob_16 P) (.node (ob_32 P) .nil .nil) (.node (ov_B_48 P) .nil .nil)) (.node (ob_24 P) (.node (ob_40 P) .nil .nil) .nil)) (.node (ob_12 P) (.node (ob_20 P) (.node (ob_36 P) .nil .nil) .nil) (.node (ob_28 P) (.node (ob_44 P) .nil .nil) .nil))) (.node (ob_6 P) (.node (ob_10 P) (.node (ob_18 P) (.node (ob_34 P) .nil .nil) (.node (ob_50 P) .nil .nil)) (.node (ob_26 P) (.node (ob_42 P) .nil .nil) .nil)) (.node (ob_14 P) (.node (ob_22 P) (.node (ob_38 P) .nil .nil) .nil) (.node (ob_30 P) (.node (ov_B_46 P) .nil .nil) .nil)))))
noncomputable def S_B (w : World) (os : OsState) : SharedT := ⟨tr_B w.params, 52, {}, Array.mk [], {}, 1546, os⟩
noncomputable def tr_C (P : Params) : BT := (.node (ob_0 P) (.node (ob_1 P) (.node (ov_C_3 P) (.node (ob_7 P) (.node (ob_15 P) (.node (ob_31 P) .nil .nil) (.node (ob_47 P) .nil .nil)) (.node (ob_23 P) (.node (ob_39 P) .nil .nil) .nil)) (.node (ob_11 P) (.node (ob_19 P) (.node (ob_35 P) .nil .nil) (.node (ob_51 P) .nil .nil)) (.node (ob_27 P) (.node (ob_43 P) .nil .nil) .nil))) (.node (ob_5 P) (.node (ob_9 P) (.node (ob_17 P) (.node (ob_33 P) .nil .nil) (.node (ob_49 P) .nil .nil)) (.node (ob_25 P) (.node (ob_41 P) .nil .nil) .nil)) (.node (ob_13 P) (.node (ob_21 P) (.node (ob_37 P) .nil .nil) (.node (ob_53 P) .nil .nil)) (.node (ov_A_29 P) (.node (ob_45 P) .nil .nil) .nil)))) (.node (ob_2 P) (.node (ob_4 P) (.node (ob_8 P) (.node (ob_16 P) (.node (ob_32 P) .nil .nil) (.node (ob_48 P) .nil .nil)) (.node (ob_24 P) (.node (ob_40 P) .nil .nil) .nil)) (.node (ob_12 P) (.node (ob_20 P) (.node (ob_36 P) .nil .nil) (.node (ob_52 P) .nil .nil)) (.node (ob_28 P) (.node (ob_44 P) .nil .nil) .nil))) (.node (ob_6 P) (.node (ob_10 P) (.node (ob_18 P) (.node (ob_34 P) .nil .nil) (.node (ob_50 P) .nil .nil)) (.node (ob_26 P) (.node (ob_42 P) .nil .nil) .nil)) (.node (ob_14 P) (.node (ob_22 P) (.node (ob_38 P) .nil .nil) (.node (ob_54 P) .nil .nil)) (.node (ob_30 P) (.node (ob_46 P) .nil .nil) .nil)))))
noncomputable def S_C (w : World) (os : OsState) : SharedT := ⟨tr_C w.params, 55, {}, Array.mk [], {}, 1835, os⟩
noncomputable def tr_D (P : Params) : BT := (.node (ob_0 P) (.node (ob_1 P) (.node (ov_D_3 P) (.node (ob_7 P) (.node (ob_15 P) (.node (ob_31 P) (.node (ob_63 P) .nil .nil) (.node (ob_95 P) .nil .nil)) (.node (ob_47 P) (.node (ob_79 P) .nil .nil) .nil)) (.node (ob_23 P) (.node (ob_39 P) (.node (ob_71 P) .nil .nil) .nil) (.node (ob_55 P) (.node (ob_87 P) .nil .nil) .nil))) (.node (ob_11 P) (.node (ob_19 P) (.node (ob_35 P) (.node (ob_67 P) .nil .nil) (.node (ob_99 P) .nil .nil)) (.node (ob_51 P) (.node (ob_83 P) .nil .nil) .nil)) (.node (ob_27 P) (.node (ob_43 P) (.node (ob_75 P) .nil .nil) .nil) (.node (ob_59 P) (.node (ob_91 P) .nil .nil) .nil)))) (.node (ob_5 P) (.node (ob_9 P) (.node (ob_17 P) (.node (ob_33 P) (.node (ob_65 P) .nil .nil) (.node (ob_97 P) .nil .nil)) (.node (ob_49 P) (.node (ob_81 P) .nil .nil) .nil)) (.node (ob_25 P) (.node (ob_41 P) (.node (ob_73 P) .nil .nil) .nil) (.node (ob_57 P) (.node (ob_89 P) .nil .nil) .nil))) (.node (ob_13 P) (.node (ob_21 P) (.node (ob_37 P) (.node (ob_69 P) .nil .nil) (.node (ob_101 P) .nil .nil)) (.node (ob_53 P) (.node (ob_85 P) .nil .nil) .nil)) (.node (ov_D_29 P) (.node (ob_45 P) (.node (ob_77 P) .nil .nil) .nil) (.node (ob_61 P) (.node (ob_93 P) .nil .nil) .nil))))) (.node (ob_2 P) (.node (ob_4 P) (.node (ob_8 P) (.node (ob_16 P) (.node (ob_32 P) (.node (ob_64 P) .nil .nil) (.node (ob_96 P) .nil .nil)) (.node (ob_48 P) (.node (ob_80 P) .nil .nil) .nil)) (.node (ob_24 P) (.node (ob_40 P) (.node (ob_72 P) .nil .nil) .nil) (.node (ob_56 P) (.node (ob_88 P) .nil .nil) .nil))) (.node (ob_12 P) (.node (ob_20 P) (.node (ob_36 P) (.node (ob_68 P) .nil .nil) (.node (ob_100 P) .nil .nil)) (.node (ob_52 P) (.node (ob_84 P) .nil .nil) .nil)) (.node (ob_28 P) (.node (ob_44 P) (.node (ob_76 P) .nil .nil) .nil) (.node (ob_60 P) (.node (ob_92 P) .nil .nil) .nil)))) (.node (ob_6 P) (.node (ob_10 P) (.node (ob_18 P) (.node (ob_34 P) (.node (ob_66 P) .nil .nil) (.node (ob_98 P) .nil .nil)) (.node (ob_50 P) (.node (ob_82 P) .nil .nil) .nil)) (.node (ob_26 P) (.node (ob_42 P) (.node (ob_74 P) .nil .nil) .nil) (.node (ob_58 P) (.node (ob_90 P) .nil .nil) .nil))) (.node (ob_14 P) (.node (ob_22 P) (.node (ob_38 P) (.node (ob_70 P) .nil .nil) .nil) (.node (ob_54 P) (.node (ob_86 P) .nil .nil) .nil)) (.node (ob_30 P) (.node (ob_46 P) (.node (ob_78 P) .nil .nil) .nil) (.node (ob_62 P) (.node (ob_94 P) .nil .nil) .nil))))))
noncomputable def S_D (w : World) (os : OsState) : SharedT := ⟨tr_D w.params, 102, {}, Array.mk [], {}, 1941, os⟩
noncomputable def tr_E (P : Params) : BT := (.node (ob_0 P) (.node (ob_1 P) (.node (ov_E_3 P) (.node (ob_7 P) (.node (ob_15 P) (.node (ob_31 P) (.node (ob_63 P) .nil .nil) (.node (ob_95 P) .nil .nil)) (.node (ob_47 P) (.node (ob_79 P) .nil .nil) .nil)) (.node (ob_23 P) (.node (ob_39 P) (.node (ob_71 P) .nil .nil) (.node (ob_103 P) .nil .nil)) (.node (ob_55 P) (.node (ob_87 P) .nil .nil) .nil))) (.node (ob_11 P) (.node (ob_19 P) (.node (ob_35 P) (.node (ob_67 P) .nil .nil) (.node (ob_99 P) .nil .nil)) (.node (ob_51 P) (.node (ob_83 P) .nil .nil) .nil)) (.node (ob_27 P) (.node (ob_43 P) (.node (ob_75 P) .nil .nil) .nil) (.node (ob_59 P) (.node (ob_91 P) .nil .nil) .nil)))) (.node (ob_5 P) (.node (ob_9 P) (.node (ob_17 P) (.node (ob_33 P) (.node (ob_65 P) .nil .nil) (.node (ob_97 P) .nil .nil)) (.node (ob_49 P) (.node (ob_81 P) .nil .nil) .nil)) (.node (ob_25 P) (.node (ob_41 P) (.node (ob_73 P) .nil .nil) (.node (ob_105 P) .nil .nil)) (.node (ob_57 P) (.node (ob_89 P) .nil .nil) .nil))) (.node (ob_13 P) (.node (ob_21 P) (.node (ob_37 P) (.node (ob_69 P) .nil .nil) (.node (ob_101 P) .nil .nil)) (.node (ob_53 P) (.node (ob_85 P) .nil .nil) .nil)) (.node (ov_D_29 P) (.node (ob_45 P) (.node (ob_77 P) .nil .nil) .nil) (.node (ob_61 P) (.node (ob_93 P) .nil .nil) .nil))))) (.node (ob_2 P) (.node (ob_4 P) (.node (ob_8 P) (.node (ob_16 P) (.node (ob_32 P) (.node (ob_64 P) .nil .nil) (.node (ob_96 P) .nil .nil)) (.node (ob_48 P) (.node (ob_80 P) .nil .nil) .nil)) (.node (ob_24 P) (.node (ob_40 P) (.node (ob_72 P) .nil .nil) (.node (ob_104 P) .nil .nil)) (.node (ob_56 P) (.node (ob_88 P) .nil .nil) .nil))) (.node (ob_12 P) (.node (ob_20 P) (.node (ob_36 P) (.node (ob_68 P) .nil .nil) (.node (ob_100 P) .nil .nil)) (.node (ob_52 P) (.node (ob_84 P) .nil .nil) .nil)) (.node (ob_28 P) (.node (ob_44 P) (.node (ob_76 P) .nil .nil) .nil) (.node (ob_60 P) (.node (ob_92 P) .nil .nil) .nil)))) (.node (ob_6 P) (.node (ob_10 P) (.node (ob_18 P) (.node (ob_34 P) (.node (ob_66 P) .nil .nil) (.node (ob_98 P) .nil .nil)) (.node (ob_50 P) (.node (ob_82 P) .nil .nil) .nil)) (.node (ob_26 P) (.node (ob_42 P) (.node (ob_74 P) .nil .nil) (.node (ob_106 P) .nil .nil)) (.node (ob_58 P) (.node (ob_90 P) .nil .nil) .nil))) (.node (ob_14 P) (.node (ob_22 P) (.node (ob_38 P) (.node (ob_70 P) .nil .nil) (.node (ob_102 P) .nil .nil)) (.node (ob_54 P) (.node (ob_86 P) .nil .nil) .nil)) (.node (ob_30 P) (.node (ob_46 P) (.node (ob_78 P) .nil .nil) .nil) (.node (ob_62 P) (.node (ob_94 P) .nil .nil) .nil))))))
noncomputable def S_E (w : World) (os : OsState) : SharedT := ⟨tr_E w.params, 107, {}, Array.mk [], {}, 2087, os⟩
noncomputable def tr_F (P : Params) : BT := (.node (ob_0 P) (.node (ob_1 P) (.node (ov_F_3 P) (.node (ob_7 P) (.node (ob_15 P) (.node (ob_31 P) (.node (ob_63 P) (.node (ob_127 P) .nil .nil) .nil) (.node (ob_95 P) .nil .nil)) (.node (ob_47 P) (.node (ob_79 P) (.node (ob_143 P) .nil .nil) .nil) (.node (ob_111 P) .nil .nil))) (.node (ob_23 P) (.node (ob_39 P) (.node (ob_71 P) (.node (ob_135 P) .nil .nil) .nil) (.node (ob_103 P) .nil .nil)) (.node (ob_55 P) (.node (ob_87 P) (.node (ov_F_151 P) .nil .nil) .nil) (.node (ob_119 P) .nil .nil)))) (.node (ob_11 P) (.node (ob_19 P) (.node (ob_35 P) (.node (ob_67 P) (.node (ob_131 P) .nil .nil) .nil) (.node (ob_99 P) .nil .nil)) (.node (ob_51 P) (.node (ob_83 P) (.node (ob_147 P) .nil .nil) .nil) (.node (ob_115 P) .nil .nil))) (.node (ob_27 P) (.node (ob_43 P) (.node (ob_75 P) (.node (ob_139 P) .nil .nil) .nil) (.node (ob_107 P) .nil .nil)) (.node (ob_59 P) (.node (ob_91 P) .nil .nil) (.node (ob_123 P) .nil .nil))))) (.node (ob_5 P) (.node (ob_9 P) (.node (ob_17 P) (.node (ob_33 P) (.node (ob_65 P) (.node (ob_129 P) .nil .nil) .nil) (.node (ob_97 P) .nil .nil)) (.node (ob_49 P) (.node (ob_81 P) (.node (ob_145 P) .nil .nil) .nil) (.node (ob_113 P) .nil .nil))) (.node (ob_25 P) (.node (ob_41 P) (.node (ob_73 P) (.node (ob_137 P) .nil .nil) .nil) (.node (ob_105 P) .nil .nil)) (.node (ob_57 P) (.node (ob_89 P) (.node (ob_153 P) .nil .nil) .nil) (.node (ob_121 P) .nil .nil)))) (.node (ob_13 P) (.node (ob_21 P) (.node (ob_37 P) (.node (ob_69 P) (.node (ob_133 P) .nil .nil) .nil) (.node (ob_101 P) .nil .nil)) (.node (ob_53 P) (.node (ob_85 P) (.node (ob_149 P) .nil .nil) .nil) (.node (ob_117 P) .nil .nil))) (.node (ov_F_29 P) (.node (ob_45 P) (.node (ob_77 P) (.node (ob_141 P) .nil .nil) .nil) (.node (ob_109 P) .nil .nil)) (.node (ob_61 P) (.node (ob_93 P) .nil .nil) (.node (ob_125 P) .nil .nil)))))) (.node (ob_2 P) (.node (ob_4 P) (.node (ob_8 P) (.node (ob_16 P) (.node (ob_32 P) (.node (ob_64 P) (.node (ob_128 P) .nil .nil) .nil) (.node (ob_96 P) .nil .nil)) (.node (ob_48 P) (.node (ob_80 P) (.node (ob_144 P) .nil .nil) .nil) (.node (ob_112 P) .nil .nil))) (.node (ob_24 P) (.node (ob_40 P) (.node (ob_72 P) (.node (ob_136 P) .nil .nil) .nil) (.node (ob_104 P) .nil .nil)) (.node (ob_56 P) (.node (ob_88 P) (.node (ob_152 P) .nil .nil) .nil) (.node (ob_120 P) .nil .nil)))) (.node (ob_12 P) (.node (ob_20 P) (.node (ob_36 P) (.node (ob_68 P) (.node (ob_132 P) .nil .nil) .nil) (.node (ob_100 P) .nil .nil)) (.node (ob_52 P) (.node (ob_84 P) (.node (ob_148 P) .nil .nil) .nil) (.node (ob_116 P) .nil .nil))) (.node (ob_28 P) (.node (ob_44 P) (.node (ob_76 P) (.node (ob_140 P) .nil .nil) .nil) (.node (ob_108 P) .nil .nil)) (.node (ob_60 P) (.node (ob_92 P) .nil .nil) (.node (ob_124 P) .nil .nil))))) (.node (ob_6 P) (.node (ob_10 P) (.node (ob_18 P) (.node (ob_34 P) (.node (ob_66 P) (.node (ob_130 P) .nil .nil) .nil) (.node (ob_98 P) .nil .nil)) (.node (ob_50 P) (.node (ob_82 P) (.node (ob_146 P) .nil .nil) .nil) (.node (ob_114 P) .nil .nil))) (.node (ob_26 P) (.node (ob_42 P) (.node (ob_74 P) (.node (ob_138 P) .nil .nil) .nil) (.node (ob_106 P) .nil .nil)) (.node (ob_58 P) (.node (ob_90 P) .nil .nil) (.node (ob_122 P) .nil .nil)))) (.node (ob_14 P) (.node (ob_22 P) (.node (ob_38 P) (.node (ob_70 P) (.node (ob_134 P) .nil .nil) .nil) (.node (ob_102 P) .nil .nil)) (.node (ob_54 P) (.node (ob_86 P) (.node (ob_150 P) .nil .nil) .nil) (.node (ob_118 P) .nil .nil))) (.node (ob_30 P) (.node (ob_46 P) (.node (ob_78 P) (.node (ob_142 P) .nil .nil) .nil) (.node (ob_110 P) .nil .nil)) (.node (ob_62 P) (.node (ob_94 P) .nil .nil) (.node (ob_126 P) .nil .nil)))))))
noncomputable def S_F (w : World) (os : OsState) : SharedT := ⟨tr_F w.params, 154, {}, Array.mk [], {}, 2165, os⟩
noncomputable def tr_G (P : Params) : BT := (.node (ob_0 P) (.node (ob_1 P) (.node (ob_3 P) (.node (ob_7 P) (.node (ob_15 P) (.node (ob_31 P) (.node (ob_63 P) (.node (ob_127 P) .nil .nil) (.node (ob_191 P) .nil .nil)) (.node (ob_95 P) (.node (ob_159 P) .nil .nil) (.node (ob_223 P) .nil .nil))) (.node (ob_47 P) (.node (ob_79 P) (.node (ob_143 P) .nil .nil) (.node (ob_207 P) .nil .nil)) (.node (ob_111 P) (.node (ob_175 P) .nil .nil) .nil))) (.node (ob_23 P) (.node (ob_39 P) (.node (ob_71 P) (.node (ob_135 P) .nil .nil) (.node (ob_199 P) .nil .nil)) (.node (ob_103 P) (.node (ob_167 P) .nil .nil) (.node (ob_231 P) .nil .nil))) (.node (ob_55 P) (.node (ob_87 P) (.node (ob_151 P) .nil .nil) (.node (ob_215 P) .nil .nil)) (.node (ob_119 P) (.node (ob_183 P) .nil .nil) .nil)))) (.node (ob_11 P) (.node (ob_19 P) (.node (ob_35 P) (.node (ob_67 P) (.node (ob_131 P) .nil .nil) (.node (ob_195 P) .nil .nil)) (.node (ob_99 P) (.node (ob_163 P) .nil .nil) (.node (ob_227 P) .nil .nil))) (.node (ob_51 P) (.node (ob_83 P) (.node (ob_147 P) .nil .nil) (.node (ob_211 P) .nil .nil)) (.node (ob_115 P) (.node (ob_179 P) .nil .nil) .nil))) (.node (ob_27 P) (.node (ob_43 P) (.node (ob_75 P) (.node (ob_139 P) .nil .nil) (.node (ob_203 P) .nil .nil)) (.node (ob_107 P) (.node (ob_171 P) .nil .nil) .nil)) (.node (ob_59 P) (.node (ob_91 P) (.node (ob_155 P) .nil .nil) (.node (ob_219 P) .nil .nil)) (.node (ob_123 P) (.node (ob_187 P) .nil .nil) .nil))))) (.node (ob_5 P) (.node (ob_9 P) (.node (ob_17 P) (.node (ob_33 P) (.node (ob_65 P) (.node (ob_129 P) .nil .nil) (.node (ob_193 P) .nil .nil)) (.node (ob_97 P) (.node (ob_161 P) .nil .nil) (.node (ob_225 P) .nil .nil))) (.node (ob_49 P) (.node (ob_81 P) (.node (ob_145 P) .nil .nil) (.node (ob_209 P) .nil .nil)) (.node (ob_113 P) (.node (ob_177 P) .nil .nil) .nil))) (.node (ob_25 P) (.node (ob_41 P) (.node (ob_73 P) (.node (ob_137 P) .nil .nil) (.node (ob_201 P) .nil .nil)) (.node (ob_105 P) (.node (ob_169 P) .nil .nil) .nil)) (.node (ob_57 P) (.node (ob_89 P) (.node (ob_153 P) .nil .nil) (.node (ob_217 P) .nil .nil)) (.node (ob_121 P) (.node (ob_185 P) .nil .nil) .nil)))) (.node (ob_13 P) (.node (ob_21 P) (.node (ob_37 P) (.node (ob_69 P) (.node (ob_133 P) .nil .nil) (.node (ob_197 P) .nil .nil)) (.node (ob_101 P) (.node (ob_165 P) .nil .nil) (.node (ob_229 P) .nil .nil))) (.node (ob_53 P) (.node (ob_85 P) (.node (ob_149 P) .nil .nil) (.node (ob_213 P) .nil .nil)) (.node (ob_117 P) (.node (ob_181 P) .nil .nil) .nil))) (.node (ob_29 P) (.node (ob_45 P) (.node (ob_77 P) (.node (ob_141 P) .nil .nil) (.node (ob_205 P) .nil .nil)) (.node (ob_109 P) (.node (ob_173 P) .nil .nil) .nil)) (.node (ob_61 P) (.node (ob_93 P) (.node (ob_157 P) .nil .nil) (.node (ob_221 P) .nil .nil)) (.node (ob_125 P) (.node (ob_189 P) .nil .nil) .nil)))))) (.node (ob_2 P) (.node (ob_4 P) (.node (ob_8 P) (.node (ob_16 P) (.node (ob_32 P) (.node (ob_64 P) (.node (ob_128 P) .nil .nil) (.node (ob_192 P) .nil .nil)) (.node (ob_96 P) (.node (ob_160 P) .nil .nil) (.node (ob_224 P) .nil .nil))) (.node (ob_48 P) (.node (ob_80 P) (.node (ob_144 P) .nil .nil) (.node (ob_208 P) .nil .nil)) (.node (ob_112 P) (.node (ob_176 P) .nil .nil) .nil))) (.node (ob_24 P) (.node (ob_40 P) (.node (ob_72 P) (.node (ob_136 P) .nil .nil) (.node (ob_200 P) .nil .nil)) (.node (ob_104 P) (.node (ob_168 P) .nil .nil) .nil)) (.node (ob_56 P) (.node (ob_88 P) (.node (ob_152 P) .nil .nil) (.node (ob_216 P) .nil .nil)) (.node (ob_120 P) (.node (ob_184 P) .nil .nil) .nil)))) (.node (ob_12 P) (.node (ob_20 P) (.node (ob_36 P) (.node (ob_68 P) (.node (ob_132 P) .nil .nil) (.node (ob_196 P) .nil .nil)) (.node (ob_100 P) (.node (ob_164 P) .nil .nil) (.node (ob_228 P) .nil .nil))) (.node (ob_52 P) (.node (ob_84 P) (.node (ob_148 P) .nil .nil) (.node (ob_212 P) .nil .nil)) (.node (ob_116 P) (.node (ob_180 P) .nil .nil) .nil))) (.node (ob_28 P) (.node (ob_44 P) (.node (ob_76 P) (.node (ob_140 P) .nil .nil) (.node (ob_204 P) .nil .nil)) (.node (ob_108 P) (.node (ob_172 P) .nil .nil) .nil)) (.node (ob_60 P) (.node (ob_92 P) (.node (ob_156 P) .nil .nil) (.node (ob_220 P) .nil .nil)) (.node (ob_124 P) (.node (ob_188 P) .nil .nil) .nil))))) (.node (ob_6 P) (.node (ob_10 P) (.node (ob_18 P) (.node (ob_34 P) (.node (ob_66 P) (.node (ob_130 P) .nil .nil) (.node (ob_194 P) .nil .nil)) (.node (ob_98 P) (.node (ob_162 P) .nil .nil) (.node (ob_226 P) .nil .nil))) (.node (ob_50 P) (.node (ob_82 P) (.node (ob_146 P) .nil .nil) (.node (ob_210 P) .nil .nil)) (.node (ob_114 P) (.node (ob_178 P) .nil .nil) .nil))) (.node (ob_26 P) (.node (ob_42 P) (.node (ob_74 P) (.node (ob_138 P) .nil .nil) (.node (ob_202 P) .nil .nil)) (.node (ob_106 P) (.node (ob_170 P) .nil .nil) .nil)) (.node (ob_58 P) (.node (ob_90 P) (.node (ob_154 P) .nil .nil) (.node (ob_218 P) .nil .nil)) (.node (ob_122 P) (.node (ob_186 P) .nil .nil) .nil)))) (.node (ob_14 P) (.node (ob_22 P) (.node (ob_38 P) (.node (ob_70 P) (.node (ob_134 P) .nil .nil) (.node (ob_198 P) .nil .nil)) (.node (ob_102 P) (.node (ob_166 P) .nil .nil) (.node (ob_230 P) .nil .nil))) (.node (ob_54 P) (.node (ob_86 P) (.node (ob_150 P) .nil .nil) (.node (ob_214 P) .nil .nil)) (.node (ob_118 P) (.node (ob_182 P) .nil .nil) .nil))) (.node (ob_30 P) (.node (ob_46 P) (.node (ob_78 P) (.node (ob_142 P) .nil .nil) (.node (ob_206 P) .nil .nil)) (.node (ob_110 P) (.node (ob_174 P) .nil .nil) .nil)) (.node (ob_62 P) (.node (ob_94 P) (.node (ob_158 P) .nil .nil) (.node (ob_222 P) .nil .nil)) (.node (ob_126 P) (.node (ob_190 P) .nil .nil) .nil)))))))
noncomputable def S_G (w : World) (os : OsState) : SharedT := ⟨tr_G w.params, 232, {}, Array.mk [], {}, 2281, os⟩
noncomputable def ps_block : Pos := ⟨0, 0, 0, 0⟩
noncomputable def ps_A : Pos := ⟨7, 0, 7, 11⟩
noncomputable def ps_B : Pos := ⟨16, 9, 16, 74⟩
noncomputable def ps_C : Pos := ⟨19, 9, 19, 110⟩
noncomputable def ps_D : Pos := ⟨103, 0, 103, 8⟩
noncomputable def ps_E : Pos := ⟨104, 0, 104, 18⟩
noncomputable def ps_F : Pos := ⟨208, 0, 211, 16⟩
noncomputable def ps_G : Pos := ⟨323, 0, 329, 76⟩
noncomputable def tr_h3 (P : Params) (i : Nat) : BT := (.node (ob_0 P) (.node (ob_1 P) (.node (ov_h3_3 P) (.node (ob_7 P) (.node (ob_15 P) (.node (ob_31 P) .nil .nil) .nil) (.node (ob_23 P) (.node (ob_39 P) .nil .nil) .nil)) (.node (ob_11 P) (.node (ob_19 P) (.node (ob_35 P) .nil .nil) .nil) (.node (ob_27 P) .nil .nil))) (.node (ob_5 P) (.node (ob_9 P) (.node (ob_17 P) (.node (ob_33 P) .nil .nil) .nil) (.node (ob_25 P) (.node (li3 i) .nil .nil) .nil)) (.node (ob_13 P) (.node (ob_21 P) (.node (ob_37 P) .nil .nil) .nil) (.node (ov_A_29 P) .nil .nil)))) (.node (ob_2 P) (.node (ob_4 P) (.node (ob_8 P) (.node (ob_16 P) (.node (ob_32 P) .nil .nil) .nil) (.node (ob_24 P) (.node (it3 i) .nil .nil) .nil)) (.node (ob_12 P) (.node (ob_20 P) (.node (ob_36 P) .nil .nil) .nil) (.node (ob_28 P) .nil .nil))) (.node (ob_6 P) (.node (ob_10 P) (.node (ob_18 P) (.node (ob_34 P) .nil .nil) .nil) (.node (ob_26 P) (.node (lo3 P i) .nil .nil) .nil)) (.node (ob_14 P) (.node (ob_22 P) (.node (ob_38 P) .nil .nil) .nil) (.node (ob_30 P) .nil .nil)))))
noncomputable def S_h3 (w : World) (os : OsState) (i : Nat) : SharedT := ⟨tr_h3 w.params i, 43, {}, Array.mk [], {}, (tok_h3 i), os⟩
noncomputable def ps_h3 : Pos := ⟨7, 15, 7, 26⟩
noncomputable def pf_h3 : Pos := ⟨7, 36, 7, 46⟩
noncomputable def tr_h12 (P : Params) (i : Nat) : BT := (.node (ob_0 P) (.node (ob_1 P) (.node (ns12 P i) (.node (ob_7 P) (.node (ob_15 P) (.node (ob_31 P) .nil .nil) (.node (ob_47 P) .nil .nil)) (.node (ob_23 P) (.node (ob_39 P) .nil .nil) .nil)) (.node (ob_11 P) (.node (ob_19 P) (.node (ob_35 P) .nil .nil) .nil) (.node (ob_27 P) (.node (ob_43 P) .nil .nil) .nil))) (.node (ob_5 P) (.node (ob_9 P) (.node (ob_17 P) (.node (ob_33 P) .nil .nil) (.node (it12 i) .nil .nil)) (.node (ob_25 P) (.node (ob_41 P) .nil .nil) .nil)) (.node (ob_13 P) (.node (ob_21 P) (.node (ob_37 P) .nil .nil) .nil) (.node (ov_A_29 P) (.node (ob_45 P) .nil .nil) .nil)))) (.node (ob_2 P) (.node (ob_4 P) (.node (ob_8 P) (.node (ob_16 P) (.node (ob_32 P) .nil .nil) (.node (ov_B_48 P) .nil .nil)) (.node (ob_24 P) (.node (ob_40 P) .nil .nil) .nil)) (.node (ob_12 P) (.node (ob_20 P) (.node (ob_36 P) .nil .nil) .nil) (.node (ob_28 P) (.node (ob_44 P) .nil .nil) .nil))) (.node (ob_6 P) (.node (ob_10 P) (.node (ob_18 P) (.node (ob_34 P) .nil .nil) .nil) (.node (ob_26 P) (.node (ob_42 P) .nil .nil) .nil)) (.node (ob_14 P) (.node (ob_22 P) (.node (ob_38 P) .nil .nil) .nil) (.node (ob_30 P) (.node (li12 P i) .nil .nil) .nil)))))
noncomputable def S_h12 (w : World) (os : OsState) (i : Nat) : SharedT := ⟨tr_h12 w.params i, 50, {}, Array.mk [], {}, (tok_h12 i), os⟩
noncomputable def ps_h12 : Pos := ⟨17, 4, 17, 25⟩
noncomputable def pf_h12 : Pos := ⟨16, 9, 16, 74⟩
noncomputable def tr_h14 (P : Params) (i : Nat) : BT := (.node (ob_0 P) (.node (ob_1 P) (.node (ns14 P i) (.node (ob_7 P) (.node (ob_15 P) (.node (ob_31 P) .nil .nil) (.node (ob_47 P) .nil .nil)) (.node (ob_23 P) (.node (ob_39 P) .nil .nil) .nil)) (.node (ob_11 P) (.node (ob_19 P) (.node (ob_35 P) .nil .nil) (.node (ob_51 P) .nil .nil)) (.node (ob_27 P) (.node (ob_43 P) .nil .nil) .nil))) (.node (ob_5 P) (.node (ob_9 P) (.node (ob_17 P) (.node (ob_33 P) .nil .nil) (.node (ob_49 P) .nil .nil)) (.node (ob_25 P) (.node (ob_41 P) .nil .nil) .nil)) (.node (ob_13 P) (.node (ob_21 P) (.node (ob_37 P) .nil .nil) .nil) (.node (ov_A_29 P) (.node (ob_45 P) .nil .nil) .nil)))) (.node (ob_2 P) (.node (ob_4 P) (.node (ob_8 P) (.node (ob_16 P) (.node (ob_32 P) .nil .nil) (.node (li14 P i) .nil .nil)) (.node (ob_24 P) (.node (ob_40 P) .nil .nil) .nil)) (.node (ob_12 P) (.node (ob_20 P) (.node (ob_36 P) .nil .nil) (.node (it14 i) .nil .nil)) (.node (ob_28 P) (.node (ob_44 P) .nil .nil) .nil))) (.node (ob_6 P) (.node (ob_10 P) (.node (ob_18 P) (.node (ob_34 P) .nil .nil) (.node (ob_50 P) .nil .nil)) (.node (ob_26 P) (.node (ob_42 P) .nil .nil) .nil)) (.node (ob_14 P) (.node (ob_22 P) (.node (ob_38 P) .nil .nil) .nil) (.node (ob_30 P) (.node (ob_46 P) .nil .nil) .nil)))))
noncomputable def S_h14 (w : World) (os : OsState) (i : Nat) : SharedT := ⟨tr_h14 w.params i, 53, {}, Array.mk [], {}, (tok_h14 i), os⟩
noncomputable def ps_h14 : Pos := ⟨20, 4, 20, 23⟩
noncomputable def pf_h14 : Pos := ⟨19, 9, 19, 110⟩
noncomputable def tr_h26 (P : Params) (i : Nat) : BT := (.node (ob_0 P) (.node (ob_1 P) (.node (ov_D_3 P) (.node (ob_7 P) (.node (ob_15 P) (.node (ob_31 P) (.node (ob_63 P) .nil .nil) (.node (ob_95 P) .nil .nil)) (.node (ob_47 P) (.node (ob_79 P) .nil .nil) .nil)) (.node (ob_23 P) (.node (ob_39 P) (.node (ob_71 P) .nil .nil) (.node (di26 P i) .nil .nil)) (.node (ob_55 P) (.node (ob_87 P) .nil .nil) .nil))) (.node (ob_11 P) (.node (ob_19 P) (.node (ob_35 P) (.node (ob_67 P) .nil .nil) (.node (ob_99 P) .nil .nil)) (.node (ob_51 P) (.node (ob_83 P) .nil .nil) .nil)) (.node (ob_27 P) (.node (ob_43 P) (.node (ob_75 P) .nil .nil) .nil) (.node (ob_59 P) (.node (ob_91 P) .nil .nil) .nil)))) (.node (ob_5 P) (.node (ob_9 P) (.node (ob_17 P) (.node (ob_33 P) (.node (ob_65 P) .nil .nil) (.node (ob_97 P) .nil .nil)) (.node (ob_49 P) (.node (ob_81 P) .nil .nil) .nil)) (.node (ob_25 P) (.node (ob_41 P) (.node (ob_73 P) .nil .nil) .nil) (.node (ob_57 P) (.node (ob_89 P) .nil .nil) .nil))) (.node (ob_13 P) (.node (ob_21 P) (.node (ob_37 P) (.node (ob_69 P) .nil .nil) (.node (ob_101 P) .nil .nil)) (.node (ob_53 P) (.node (ob_85 P) .nil .nil) .nil)) (.node (ov_D_29 P) (.node (ob_45 P) (.node (ob_77 P) .nil .nil) .nil) (.node (ob_61 P) (.node (ob_93 P) .nil .nil) .nil))))) (.node (ob_2 P) (.node (ob_4 P) (.node (ob_8 P) (.node (ob_16 P) (.node (ob_32 P) (.node (ob_64 P) .nil .nil) (.node (ob_96 P) .nil .nil)) (.node (ob_48 P) (.node (ob_80 P) .nil .nil) .nil)) (.node (ob_24 P) (.node (ob_40 P) (.node (ob_72 P) .nil .nil) (.node (lo26 P i) .nil .nil)) (.node (ob_56 P) (.node (ob_88 P) .nil .nil) .nil))) (.node (ob_12 P) (.node (ob_20 P) (.node (ob_36 P) (.node (ob_68 P) .nil .nil) (.node (ob_100 P) .nil .nil)) (.node (ob_52 P) (.node (ob_84 P) .nil .nil) .nil)) (.node (ob_28 P) (.node (ob_44 P) (.node (ob_76 P) .nil .nil) .nil) (.node (ob_60 P) (.node (ob_92 P) .nil .nil) .nil)))) (.node (ob_6 P) (.node (ob_10 P) (.node (ob_18 P) (.node (ob_34 P) (.node (ob_66 P) .nil .nil) (.node (ob_98 P) .nil .nil)) (.node (ob_50 P) (.node (ob_82 P) .nil .nil) .nil)) (.node (ob_26 P) (.node (ob_42 P) (.node (ob_74 P) .nil .nil) .nil) (.node (ob_58 P) (.node (ob_90 P) .nil .nil) .nil))) (.node (ob_14 P) (.node (ob_22 P) (.node (ob_38 P) (.node (ob_70 P) .nil .nil) (.node (it26 i) .nil .nil)) (.node (ob_54 P) (.node (ob_86 P) .nil .nil) .nil)) (.node (ob_30 P) (.node (ob_46 P) (.node (ob_78 P) .nil .nil) .nil) (.node (ob_62 P) (.node (ob_94 P) .nil .nil) .nil))))))
noncomputable def S_h26 (w : World) (os : OsState) (i : Nat) : SharedT := ⟨tr_h26 w.params i, 105, {}, Array.mk [], {}, (tok_h26 i), os⟩
noncomputable def ps_h26 : Pos := ⟨104, 22, 104, 38⟩
noncomputable def pf_h26 : Pos := ⟨104, 48, 104, 85⟩
noncomputable def env0 : Env := { scope := pw.main.scope, locals := mainNs, globals := mainNs, cells := [], code := .ref 30, frame := some 31 }
noncomputable abbrev cE : Code := .body (behindTheImports pw) env0
noncomputable abbrev tB : List Frame := [topFrame ⟨0, 0, 0, 0⟩]
noncomputable abbrev annv : Option Value := some (.ref 6)
noncomputable abbrev tbq := PySem.W.Fast.tw14364793385576792824
noncomputable abbrev denq := PySem.W.Fast.tw11892475500146522536
noncomputable abbrev goq := PySem.W.Fast.tw10295753902157049106
noncomputable abbrev runq := PySem.W.Fast.tw10110043849684766642
noncomputable def cenv3 : Env := { scope := compScope (valOf (st 3)), locals := 42, globals := 3, cells := [], code := .ref 30, frame := some 31 }
noncomputable def cenv26 : Env := { scope := compScope (valOf (st 26)), locals := 104, globals := 3, cells := [], code := .ref 30, frame := some 31 }
noncomputable def c_h3 : Code := .compLoop (valOf (st 3)) 0 (.ref 40) (.ref 41) cenv3
noncomputable def c_h12 : Code := .forLoop (valOf (st 12)) (.ref 49) (bodyOf (st 12)) (elseOf (st 12)) env0
noncomputable def c_h14 : Code := .forLoop (valOf (st 14)) (.ref 52) (bodyOf (st 14)) (elseOf (st 14)) env0
noncomputable def c_h26 : Code := .compLoop (valOf (st 26)) 0 (.ref 102) (.ref 103) cenv26
noncomputable def T_h3 (k : Result → Sem Fin) : Thread := ⟨denq tbq c_h3, c_h3, ps_h3, .ret k none true [.ref 42, .ref 41] cE pf_h3 [] :: tB⟩
noncomputable def T_h12 (k : Result → Sem Fin) : Thread := ⟨denq tbq c_h12, c_h12, ps_h12, .ret k none false [] cE pf_h12 [] :: tB⟩
noncomputable def T_h14 (k : Result → Sem Fin) : Thread := ⟨denq tbq c_h14, c_h14, ps_h14, .ret k none false [] cE pf_h14 [] :: tB⟩
noncomputable def T_h26 (k : Result → Sem Fin) : Thread := ⟨denq tbq c_h26, c_h26, ps_h26, .ret k none true [.ref 104, .ref 103] cE pf_h26 [] :: tB⟩
noncomputable def kOf (r : Option (SharedT × Thread)) : Result → Sem Fin := match r with
  | some (_, ⟨_, _, _, .ret k _ _ _ _ _ _ :: _⟩) => k
  | _ => fun _ => .unsupported "no frame"
theorem goT_q : segGoT treeTable = goq tbq := by rw [PySem.W.Fast.te10295753902157049106, PySem.W.Fast.te14364793385576792824]
theorem runT_q : segRunT treeTable = runq tbq := by rw [PySem.W.Fast.te10110043849684766642, PySem.W.Fast.te14364793385576792824]
theorem go_q {w : World} {n : Nat} {s s' : SharedT} {t t' : Thread} (h : goq tbq pw w 28 annv 1 n s t = some (s', t')) : segGo treeTable pw w 28 annv 1 n s.abs t = some (s'.abs, t') := segGo_of (by rw [goT_q]; exact h)
theorem run_q {w : World} {n : Nat} {s s' : SharedT} {t : Thread} {f : Flow} {c : Code} {q : Pos} (h : runq tbq pw w 28 annv 1 n s t = some (f, s', c, q)) : segRun treeTable pw w 28 annv 1 n s.abs t = some (f, s'.abs, c, q) := segRun_of (by rw [runT_q]; exact h)
theorem segRun_mono {tb : String → Option Builtin} {p : Program} {w : World} {n₀ : Nat} {ann : Option Value} {b : Nat} (k : Nat) : ∀ {n : Nat} {s : Shared} {t : Thread} {r : Flow × Shared × Code × Pos}, segRun tb p w n₀ ann b n s t = some r → segRun tb p w n₀ ann b (n + k) s t = some r
  | 0, _, _, _, h => by simp [segRun] at h
  | n + 1, s, t, r, h => by
    rw [show n + 1 + k = n + k + 1 by omega]
    unfold segRun at h ⊢
    cases he : endAt b t with
    | some f => rw [he] at h; exact h
    | none =>
      rw [he] at h
      cases hk : stepOk n₀ ann t with
      | false => rw [hk] at h; cases h
      | true =>
        rw [hk] at h
        cases hs : step (denote tb) p w s t with
        | halt o s' => rw [hs] at h; cases h
        | go s' t' => rw [hs] at h; exact segRun_mono k h
def stsA : List Stmt := (behindTheImports pw).take 4
def stsB : List Stmt := ((behindTheImports pw).drop 4).take 9
def stsC : List Stmt := ((behindTheImports pw).drop 13).take 2
def stsD : List Stmt := ((behindTheImports pw).drop 15).take 11
def stsE : List Stmt := ((behindTheImports pw).drop 26).take 1
def stsF : List Stmt := ((behindTheImports pw).drop 27).take 8
def stsG : List Stmt := (behindTheImports pw).drop 35
noncomputable abbrev thA : Thread := piecesOf stsA env0 cE ps_block tB
noncomputable abbrev thB : Thread := piecesOf stsB env0 cE ps_A tB
noncomputable abbrev thC : Thread := piecesOf stsC env0 cE ps_B tB
noncomputable abbrev thD : Thread := piecesOf stsD env0 cE ps_C tB
noncomputable abbrev thE : Thread := piecesOf stsE env0 cE ps_D tB
noncomputable abbrev thF : Thread := piecesOf stsF env0 cE ps_E tB
noncomputable abbrev thG : Thread := piecesOf stsG env0 cE ps_F tB
abbrev rowS : String := "special-get-raises"
abbrev rowC : String := "comprehension-iter-twice"
noncomputable def k_h3 (n : Nat) (w : World) (os : OsState) : Result → Sem Fin := kOf (goq tbq pw w 28 annv 1 n (S_block w os) thA)
theorem turnA1 (w : World) (os : OsState) (k : Result → Sem Fin) : goq tbq pw w 28 annv 1 555 (S_h3 w os 1) (T_h3 k) = some (S_h3 w os 16, T_h3 k) := by kernel_rfl
theorem turnA16 (w : World) (os : OsState) (k : Result → Sem Fin) : goq tbq pw w 28 annv 1 555 (S_h3 w os 16) (T_h3 k) = some (S_h3 w os 31, T_h3 k) := by kernel_rfl
theorem turnA31 (w : World) (os : OsState) (k : Result → Sem Fin) : goq tbq pw w 28 annv 1 555 (S_h3 w os 31) (T_h3 k) = some (S_h3 w os 46, T_h3 k) := by kernel_rfl
theorem turnA46 (w : World) (os : OsState) (k : Result → Sem Fin) : goq tbq pw w 28 annv 1 555 (S_h3 w os 46) (T_h3 k) = some (S_h3 w os 61, T_h3 k) := by kernel_rfl
theorem turnA61 (w : World) (os : OsState) (k : Result → Sem Fin) : goq tbq pw w 28 annv 1 555 (S_h3 w os 61) (T_h3 k) = some (S_h3 w os 76, T_h3 k) := by kernel_rfl
theorem turnA76 (w : World) (os : OsState) (k : Result → Sem Fin) : goq tbq pw w 28 annv 1 555 (S_h3 w os 76) (T_h3 k) = some (S_h3 w os 91, T_h3 k) := by kernel_rfl
theorem turnA91 (w : World) (os : OsState) (k : Result → Sem Fin) : goq tbq pw w 28 annv 1 555 (S_h3 w os 91) (T_h3 k) = some (S_h3 w os 106, T_h3 k) := by kernel_rfl
theorem turnA106 (w : World) (os : OsState) (k : Result → Sem Fin) : goq tbq pw w 28 annv 1 555 (S_h3 w os 106) (T_h3 k) = some (S_h3 w os 121, T_h3 k) := by kernel_rfl
theorem turnA121 (w : World) (os : OsState) (k : Result → Sem Fin) : goq tbq pw w 28 annv 1 555 (S_h3 w os 121) (T_h3 k) = some (S_h3 w os 136, T_h3 k) := by kernel_rfl
theorem turnA136 (w : World) (os : OsState) (k : Result → Sem Fin) : goq tbq pw w 28 annv 1 555 (S_h3 w os 136) (T_h3 k) = some (S_h3 w os 151, T_h3 k) := by kernel_rfl
theorem turnA151 (w : World) (os : OsState) (k : Result → Sem Fin) : goq tbq pw w 28 annv 1 555 (S_h3 w os 151) (T_h3 k) = some (S_h3 w os 166, T_h3 k) := by kernel_rfl
theorem turnA166 (w : World) (os : OsState) (k : Result → Sem Fin) : goq tbq pw w 28 annv 1 555 (S_h3 w os 166) (T_h3 k) = some (S_h3 w os 181, T_h3 k) := by kernel_rfl
theorem turnA181 (w : World) (os : OsState) (k : Result → Sem Fin) : goq tbq pw w 28 annv 1 555 (S_h3 w os 181) (T_h3 k) = some (S_h3 w os 196, T_h3 k) := by kernel_rfl
theorem turnA196 (w : World) (os : OsState) (k : Result → Sem Fin) : goq tbq pw w 28 annv 1 555 (S_h3 w os 196) (T_h3 k) = some (S_h3 w os 211, T_h3 k) := by kernel_rfl
theorem turnA211 (w : World) (os : OsState) (k : Result → Sem Fin) : goq tbq pw w 28 annv 1 555 (S_h3 w os 211) (T_h3 k) = some (S_h3 w os 226, T_h3 k) := by kernel_rfl
theorem turnA226 (w : World) (os : OsState) (k : Result → Sem Fin) : goq tbq pw w 28 annv 1 555 (S_h3 w os 226) (T_h3 k) = some (S_h3 w os 241, T_h3 k) := by kernel_rfl
theorem turnA241 (w : World) (os : OsState) (k : Result → Sem Fin) : goq tbq pw w 28 annv 1 555 (S_h3 w os 241) (T_h3 k) = some (S_h3 w os 256, T_h3 k) := by kernel_rfl
def EntAf (w : World) : Prop := ∀ os : OsState, goq tbq pw (World.withFollow w rowC false) 28 annv 1 136 (S_block (World.withFollow w rowC false) os) thA = some (S_h3 (World.withFollow w rowC false) os 1, T_h3 (k_h3 136 (World.withFollow w rowC false) os))
theorem EntAf_all (w : World) : EntAf w := byRow2 rowS (P := fun w => EntAf w) (fun w => (fun os => by kernel_rfl)) (fun w => (fun os => by kernel_rfl)) w
def ExitAf (w : World) : Prop := ∀ os : OsState, runq tbq pw (World.withFollow w rowC false) 28 annv 1 28 (S_h3 (World.withFollow w rowC false) os 256) (T_h3 (k_h3 136 (World.withFollow w rowC false) os)) = some (.next, S_A (World.withFollow w rowC false) os, cE, ps_A)
theorem ExitAf_all (w : World) : ExitAf w := byRow2 rowS (P := fun w => ExitAf w) (fun w => (fun os => by kernel_rfl)) (fun w => (fun os => by kernel_rfl)) w
def EntAt (w : World) : Prop := ∀ os : OsState, goq tbq pw (World.withFollow w rowC true) 28 annv 1 126 (S_block (World.withFollow w rowC true) os) thA = some (S_h3 (World.withFollow w rowC true) os 1, T_h3 (k_h3 126 (World.withFollow w rowC true) os))
theorem EntAt_all (w : World) : EntAt w := byRow2 rowS (P := fun w => EntAt w) (fun w => (fun os => by kernel_rfl)) (fun w => (fun os => by kernel_rfl)) w
def ExitAt (w : World) : Prop := ∀ os : OsState, runq tbq pw (World.withFollow w rowC true) 28 annv 1 28 (S_h3 (World.withFollow w rowC true) os 256) (T_h3 (k_h3 126 (World.withFollow w rowC true) os)) = some (.next, S_A (World.withFollow w rowC true) os, cE, ps_A)
theorem ExitAt_all (w : World) : ExitAt w := byRow2 rowS (P := fun w => ExitAt w) (fun w => (fun os => by kernel_rfl)) (fun w => (fun os => by kernel_rfl)) w
theorem runAf (w : World) (os : OsState) : segRun treeTable pw (World.withFollow w rowC false) 28 annv 1 (136 + (555 + (555 + (555 + (555 + (555 + (555 + (555 + (555 + (555 + (555 + (555 + (555 + (555 + (555 + (555 + (555 + (555 + (28))))))))))))))))))) (S_block (World.withFollow w rowC false) os).abs thA = some (.next, (S_A (World.withFollow w rowC false) os).abs, cE, ps_A) :=
  seg_go (go_q (EntAf_all w os)) (seg_go (go_q (turnA1 (World.withFollow w rowC false) os _)) (seg_go (go_q (turnA16 (World.withFollow w rowC false) os _)) (seg_go (go_q (turnA31 (World.withFollow w rowC false) os _)) (seg_go (go_q (turnA46 (World.withFollow w rowC false) os _)) (seg_go (go_q (turnA61 (World.withFollow w rowC false) os _)) (seg_go (go_q (turnA76 (World.withFollow w rowC false) os _)) (seg_go (go_q (turnA91 (World.withFollow w rowC false) os _)) (seg_go (go_q (turnA106 (World.withFollow w rowC false) os _)) (seg_go (go_q (turnA121 (World.withFollow w rowC false) os _)) (seg_go (go_q (turnA136 (World.withFollow w rowC false) os _)) (seg_go (go_q (turnA151 (World.withFollow w rowC false) os _)) (seg_go (go_q (turnA166 (World.withFollow w rowC false) os _)) (seg_go (go_q (turnA181 (World.withFollow w rowC false) os _)) (seg_go (go_q (turnA196 (World.withFollow w rowC false) os _)) (seg_go (go_q (turnA211 (World.withFollow w rowC false) os _)) (seg_go (go_q (turnA226 (World.withFollow w rowC false) os _)) (seg_go (go_q (turnA241 (World.withFollow w rowC false) os _)) (run_q (ExitAf_all w os)))))))))))))))))))
theorem runAt (w : World) (os : OsState) : segRun treeTable pw (World.withFollow w rowC true) 28 annv 1 (126 + (555 + (555 + (555 + (555 + (555 + (555 + (555 + (555 + (555 + (555 + (555 + (555 + (555 + (555 + (555 + (555 + (555 + (28))))))))))))))))))) (S_block (World.withFollow w rowC true) os).abs thA = some (.next, (S_A (World.withFollow w rowC true) os).abs, cE, ps_A) :=
  seg_go (go_q (EntAt_all w os)) (seg_go (go_q (turnA1 (World.withFollow w rowC true) os _)) (seg_go (go_q (turnA16 (World.withFollow w rowC true) os _)) (seg_go (go_q (turnA31 (World.withFollow w rowC true) os _)) (seg_go (go_q (turnA46 (World.withFollow w rowC true) os _)) (seg_go (go_q (turnA61 (World.withFollow w rowC true) os _)) (seg_go (go_q (turnA76 (World.withFollow w rowC true) os _)) (seg_go (go_q (turnA91 (World.withFollow w rowC true) os _)) (seg_go (go_q (turnA106 (World.withFollow w rowC true) os _)) (seg_go (go_q (turnA121 (World.withFollow w rowC true) os _)) (seg_go (go_q (turnA136 (World.withFollow w rowC true) os _)) (seg_go (go_q (turnA151 (World.withFollow w rowC true) os _)) (seg_go (go_q (turnA166 (World.withFollow w rowC true) os _)) (seg_go (go_q (turnA181 (World.withFollow w rowC true) os _)) (seg_go (go_q (turnA196 (World.withFollow w rowC true) os _)) (seg_go (go_q (turnA211 (World.withFollow w rowC true) os _)) (seg_go (go_q (turnA226 (World.withFollow w rowC true) os _)) (seg_go (go_q (turnA241 (World.withFollow w rowC true) os _)) (run_q (ExitAt_all w os)))))))))))))))))))
theorem runA (w : World) (os : OsState) : segRun treeTable pw w 28 annv 1 9599 (S_block w os).abs thA = some (.next, (S_A w os).abs, cE, ps_A) :=
  byRow2 rowC (P := fun w => segRun treeTable pw w 28 annv 1 9599 (S_block w os).abs thA = some (.next, (S_A w os).abs, cE, ps_A)) (fun w => runAf w os) (fun w => segRun_mono 10 (runAt w os)) w
noncomputable def k_h12 (w : World) (os : OsState) : Result → Sem Fin := kOf (goq tbq pw w 28 annv 1 221 (S_A w os) thB)
def EntB (w : World) : Prop := ∀ os : OsState, goq tbq pw w 28 annv 1 221 (S_A w os) thB = some (S_h12 w os 1, T_h12 (k_h12 w os))
theorem EntB_all (w : World) : EntB w := byRow2 rowS (P := fun w => EntB w) (fun w => (fun os => by kernel_rfl)) (fun w => (fun os => by kernel_rfl)) w
theorem turnB1 (w : World) (os : OsState) (k : Result → Sem Fin) : goq tbq pw w 28 annv 1 495 (S_h12 w os 1) (T_h12 k) = some (S_h12 w os 12, T_h12 k) := by kernel_rfl
theorem turnB12 (w : World) (os : OsState) (k : Result → Sem Fin) : goq tbq pw w 28 annv 1 495 (S_h12 w os 12) (T_h12 k) = some (S_h12 w os 23, T_h12 k) := by kernel_rfl
theorem turnB23 (w : World) (os : OsState) (k : Result → Sem Fin) : goq tbq pw w 28 annv 1 495 (S_h12 w os 23) (T_h12 k) = some (S_h12 w os 34, T_h12 k) := by kernel_rfl
theorem turnB34 (w : World) (os : OsState) (k : Result → Sem Fin) : goq tbq pw w 28 annv 1 495 (S_h12 w os 34) (T_h12 k) = some (S_h12 w os 45, T_h12 k) := by kernel_rfl
theorem turnB45 (w : World) (os : OsState) (k : Result → Sem Fin) : goq tbq pw w 28 annv 1 495 (S_h12 w os 45) (T_h12 k) = some (S_h12 w os 56, T_h12 k) := by kernel_rfl
theorem turnB56 (w : World) (os : OsState) (k : Result → Sem Fin) : goq tbq pw w 28 annv 1 495 (S_h12 w os 56) (T_h12 k) = some (S_h12 w os 67, T_h12 k) := by kernel_rfl
def ExitB (w : World) : Prop := ∀ os : OsState, runq tbq pw w 28 annv 1 18 (S_h12 w os 67) (T_h12 (k_h12 w os)) = some (.next, S_B w os, cE, ps_B)
theorem ExitB_all (w : World) : ExitB w := byRow2 rowS (P := fun w => ExitB w) (fun w => (fun os => by kernel_rfl)) (fun w => (fun os => by kernel_rfl)) w
theorem runB (w : World) (os : OsState) : segRun treeTable pw w 28 annv 1 (221 + (495 + (495 + (495 + (495 + (495 + (495 + (18)))))))) (S_A w os).abs thB = some (.next, (S_B w os).abs, cE, ps_B) :=
  seg_go (go_q (EntB_all w os)) (seg_go (go_q (turnB1 w os _)) (seg_go (go_q (turnB12 w os _)) (seg_go (go_q (turnB23 w os _)) (seg_go (go_q (turnB34 w os _)) (seg_go (go_q (turnB45 w os _)) (seg_go (go_q (turnB56 w os _)) (run_q (ExitB_all w os))))))))
noncomputable def k_h14 (w : World) (os : OsState) : Result → Sem Fin := kOf (goq tbq pw w 28 annv 1 79 (S_B w os) thC)
def EntC (w : World) : Prop := ∀ os : OsState, goq tbq pw w 28 annv 1 79 (S_B w os) thC = some (S_h14 w os 1, T_h14 (k_h14 w os))
theorem EntC_all (w : World) : EntC w := byRow2 rowS (P := fun w => EntC w) (fun w => (fun os => by kernel_rfl)) (fun w => (fun os => by kernel_rfl)) w
theorem turnC1 (w : World) (os : OsState) (k : Result → Sem Fin) : goq tbq pw w 28 annv 1 450 (S_h14 w os 1) (T_h14 k) = some (S_h14 w os 11, T_h14 k) := by kernel_rfl
theorem turnC11 (w : World) (os : OsState) (k : Result → Sem Fin) : goq tbq pw w 28 annv 1 450 (S_h14 w os 11) (T_h14 k) = some (S_h14 w os 21, T_h14 k) := by kernel_rfl
theorem turnC21 (w : World) (os : OsState) (k : Result → Sem Fin) : goq tbq pw w 28 annv 1 450 (S_h14 w os 21) (T_h14 k) = some (S_h14 w os 31, T_h14 k) := by kernel_rfl
theorem turnC31 (w : World) (os : OsState) (k : Result → Sem Fin) : goq tbq pw w 28 annv 1 450 (S_h14 w os 31) (T_h14 k) = some (S_h14 w os 41, T_h14 k) := by kernel_rfl
theorem turnC41 (w : World) (os : OsState) (k : Result → Sem Fin) : goq tbq pw w 28 annv 1 450 (S_h14 w os 41) (T_h14 k) = some (S_h14 w os 51, T_h14 k) := by kernel_rfl
theorem turnC51 (w : World) (os : OsState) (k : Result → Sem Fin) : goq tbq pw w 28 annv 1 450 (S_h14 w os 51) (T_h14 k) = some (S_h14 w os 61, T_h14 k) := by kernel_rfl
theorem turnC61 (w : World) (os : OsState) (k : Result → Sem Fin) : goq tbq pw w 28 annv 1 450 (S_h14 w os 61) (T_h14 k) = some (S_h14 w os 71, T_h14 k) := by kernel_rfl
theorem turnC71 (w : World) (os : OsState) (k : Result → Sem Fin) : goq tbq pw w 28 annv 1 450 (S_h14 w os 71) (T_h14 k) = some (S_h14 w os 81, T_h14 k) := by kernel_rfl
theorem turnC81 (w : World) (os : OsState) (k : Result → Sem Fin) : goq tbq pw w 28 annv 1 450 (S_h14 w os 81) (T_h14 k) = some (S_h14 w os 91, T_h14 k) := by kernel_rfl
theorem turnC91 (w : World) (os : OsState) (k : Result → Sem Fin) : goq tbq pw w 28 annv 1 180 (S_h14 w os 91) (T_h14 k) = some (S_h14 w os 95, T_h14 k) := by kernel_rfl
def ExitC (w : World) : Prop := ∀ os : OsState, runq tbq pw w 28 annv 1 18 (S_h14 w os 95) (T_h14 (k_h14 w os)) = some (.next, S_C w os, cE, ps_C)
theorem ExitC_all (w : World) : ExitC w := byRow2 rowS (P := fun w => ExitC w) (fun w => (fun os => by kernel_rfl)) (fun w => (fun os => by kernel_rfl)) w
theorem runC (w : World) (os : OsState) : segRun treeTable pw w 28 annv 1 (79 + (450 + (450 + (450 + (450 + (450 + (450 + (450 + (450 + (450 + (180 + (18)))))))))))) (S_B w os).abs thC = some (.next, (S_C w os).abs, cE, ps_C) :=
  seg_go (go_q (EntC_all w os)) (seg_go (go_q (turnC1 w os _)) (seg_go (go_q (turnC11 w os _)) (seg_go (go_q (turnC21 w os _)) (seg_go (go_q (turnC31 w os _)) (seg_go (go_q (turnC41 w os _)) (seg_go (go_q (turnC51 w os _)) (seg_go (go_q (turnC61 w os _)) (seg_go (go_q (turnC71 w os _)) (seg_go (go_q (turnC81 w os _)) (seg_go (go_q (turnC91 w os _)) (run_q (ExitC_all w os))))))))))))
theorem runB' (w : World) (os : OsState) : segRun treeTable pw w 28 annv 1 3209 (S_A w os).abs thB = some (.next, (S_B w os).abs, cE, ps_B) := runB w os
theorem runC' (w : World) (os : OsState) : segRun treeTable pw w 28 annv 1 4327 (S_B w os).abs thC = some (.next, (S_C w os).abs, cE, ps_C) := runC w os
def RunD (w : World) : Prop := ∀ os : OsState, runq tbq pw w 28 annv 1 422 (S_C w os) thD = some (.next, S_D w os, cE, ps_D)
theorem RunD_all (w : World) : RunD w := byRow2 rowS (P := fun w => RunD w) (fun w => (fun os => by kernel_rfl)) (fun w => (fun os => by kernel_rfl)) w
theorem runD (w : World) (os : OsState) : segRun treeTable pw w 28 annv 1 422 (S_C w os).abs thD = some (.next, (S_D w os).abs, cE, ps_D) := run_q (RunD_all w os)
noncomputable def k_h26 (n : Nat) (w : World) (os : OsState) : Result → Sem Fin := kOf (goq tbq pw w 28 annv 1 n (S_D w os) thE)
def TurnE1 (w : World) : Prop := ∀ os : OsState, ∀ k : Result → Sem Fin, goq tbq pw w 28 annv 1 300 (S_h26 w os 1) (T_h26 k) = some (S_h26 w os 7, T_h26 k)
theorem TurnE1_all (w : World) : TurnE1 w := byRow2 rowS (P := fun w => TurnE1 w) (fun w => (fun os k => by kernel_rfl)) (fun w => (fun os k => by kernel_rfl)) w
def TurnE7 (w : World) : Prop := ∀ os : OsState, ∀ k : Result → Sem Fin, goq tbq pw w 28 annv 1 300 (S_h26 w os 7) (T_h26 k) = some (S_h26 w os 13, T_h26 k)
theorem TurnE7_all (w : World) : TurnE7 w := byRow2 rowS (P := fun w => TurnE7 w) (fun w => (fun os k => by kernel_rfl)) (fun w => (fun os k => by kernel_rfl)) w
def TurnE13 (w : World) : Prop := ∀ os : OsState, ∀ k : Result → Sem Fin, goq tbq pw w 28 annv 1 300 (S_h26 w os 13) (T_h26 k) = some (S_h26 w os 19, T_h26 k)
theorem TurnE13_all (w : World) : TurnE13 w := byRow2 rowS (P := fun w => TurnE13 w) (fun w => (fun os k => by kernel_rfl)) (fun w => (fun os k => by kernel_rfl)) w
def TurnE19 (w : World) : Prop := ∀ os : OsState, ∀ k : Result → Sem Fin, goq tbq pw w 28 annv 1 250 (S_h26 w os 19) (T_h26 k) = some (S_h26 w os 24, T_h26 k)
theorem TurnE19_all (w : World) : TurnE19 w := byRow2 rowS (P := fun w => TurnE19 w) (fun w => (fun os k => by kernel_rfl)) (fun w => (fun os k => by kernel_rfl)) w
def EntEf (w : World) : Prop := ∀ os : OsState, goq tbq pw (World.withFollow w rowC false) 28 annv 1 74 (S_D (World.withFollow w rowC false) os) thE = some (S_h26 (World.withFollow w rowC false) os 1, T_h26 (k_h26 74 (World.withFollow w rowC false) os))
theorem EntEf_all (w : World) : EntEf w := byRow2 rowS (P := fun w => EntEf w) (fun w => (fun os => by kernel_rfl)) (fun w => (fun os => by kernel_rfl)) w
def ExitEf (w : World) : Prop := ∀ os : OsState, runq tbq pw (World.withFollow w rowC false) 28 annv 1 29 (S_h26 (World.withFollow w rowC false) os 24) (T_h26 (k_h26 74 (World.withFollow w rowC false) os)) = some (.next, S_E (World.withFollow w rowC false) os, cE, ps_E)
theorem ExitEf_all (w : World) : ExitEf w := byRow2 rowS (P := fun w => ExitEf w) (fun w => (fun os => by kernel_rfl)) (fun w => (fun os => by kernel_rfl)) w
def EntEt (w : World) : Prop := ∀ os : OsState, goq tbq pw (World.withFollow w rowC true) 28 annv 1 64 (S_D (World.withFollow w rowC true) os) thE = some (S_h26 (World.withFollow w rowC true) os 1, T_h26 (k_h26 64 (World.withFollow w rowC true) os))
theorem EntEt_all (w : World) : EntEt w := byRow2 rowS (P := fun w => EntEt w) (fun w => (fun os => by kernel_rfl)) (fun w => (fun os => by kernel_rfl)) w
def ExitEt (w : World) : Prop := ∀ os : OsState, runq tbq pw (World.withFollow w rowC true) 28 annv 1 29 (S_h26 (World.withFollow w rowC true) os 24) (T_h26 (k_h26 64 (World.withFollow w rowC true) os)) = some (.next, S_E (World.withFollow w rowC true) os, cE, ps_E)
theorem ExitEt_all (w : World) : ExitEt w := byRow2 rowS (P := fun w => ExitEt w) (fun w => (fun os => by kernel_rfl)) (fun w => (fun os => by kernel_rfl)) w
theorem runEf (w : World) (os : OsState) : segRun treeTable pw (World.withFollow w rowC false) 28 annv 1 (74 + (300 + (300 + (300 + (250 + (29)))))) (S_D (World.withFollow w rowC false) os).abs thE = some (.next, (S_E (World.withFollow w rowC false) os).abs, cE, ps_E) :=
  seg_go (go_q (EntEf_all w os)) (seg_go (go_q (TurnE1_all (World.withFollow w rowC false) os _)) (seg_go (go_q (TurnE7_all (World.withFollow w rowC false) os _)) (seg_go (go_q (TurnE13_all (World.withFollow w rowC false) os _)) (seg_go (go_q (TurnE19_all (World.withFollow w rowC false) os _)) (run_q (ExitEf_all w os))))))
theorem runEt (w : World) (os : OsState) : segRun treeTable pw (World.withFollow w rowC true) 28 annv 1 (64 + (300 + (300 + (300 + (250 + (29)))))) (S_D (World.withFollow w rowC true) os).abs thE = some (.next, (S_E (World.withFollow w rowC true) os).abs, cE, ps_E) :=
  seg_go (go_q (EntEt_all w os)) (seg_go (go_q (TurnE1_all (World.withFollow w rowC true) os _)) (seg_go (go_q (TurnE7_all (World.withFollow w rowC true) os _)) (seg_go (go_q (TurnE13_all (World.withFollow w rowC true) os _)) (seg_go (go_q (TurnE19_all (World.withFollow w rowC true) os _)) (run_q (ExitEt_all w os))))))
theorem runE (w : World) (os : OsState) : segRun treeTable pw w 28 annv 1 1253 (S_D w os).abs thE = some (.next, (S_E w os).abs, cE, ps_E) :=
  byRow2 rowC (P := fun w => segRun treeTable pw w 28 annv 1 1253 (S_D w os).abs thE = some (.next, (S_E w os).abs, cE, ps_E)) (fun w => runEf w os) (fun w => segRun_mono 10 (runEt w os)) w
def RunF (w : World) : Prop := ∀ os : OsState, runq tbq pw w 28 annv 1 373 (S_E w os) thF = some (.next, S_F w os, cE, ps_F)
theorem RunF_all (w : World) : RunF w := (fun os => by kernel_rfl)
theorem runF (w : World) (os : OsState) : segRun treeTable pw w 28 annv 1 373 (S_E w os).abs thF = some (.next, (S_F w os).abs, cE, ps_F) := run_q (RunF_all w os)
def RunG (w : World) : Prop := ∀ os : OsState, runq tbq pw w 28 annv 1 563 (S_F w os) thG = some (.next, S_G w os, cE, ps_G)
theorem RunG_all (w : World) : RunG w := (fun os => by kernel_rfl)
theorem runG (w : World) (os : OsState) : segRun treeTable pw w 28 annv 1 563 (S_F w os).abs thG = some (.next, (S_G w os).abs, cE, ps_G) := run_q (RunG_all w os)
theorem split_sts : behindTheImports pw = stsA ++ (stsB ++ (stsC ++ (stsD ++ (stsE ++ (stsF ++ (stsG ++ [])))))) := by kernel_rfl
theorem runPre (w : World) (os : OsState) : topGo treeTable pw w 28 annv 12 ⟨hp_zero w.params, Array.mk [], {}, 276, os⟩ (topStub pw) = some (⟨hp_pre w.params, Array.mk [], {}, 282, os⟩, ⟨denote treeTable cE, cE, ⟨0, 0, 0, 0⟩, tB⟩) := by
  rw [PySem.W.Fast.te15667345088766844465, PySem.W.Fast.te14364793385576792824, PySem.W.Fast.te11892475500146522536]
  kernel_rfl
theorem runBlock (w : World) (os : OsState) : segRun treeTable pw w 28 annv 1 1 ⟨hp_pre w.params, Array.mk [], {}, 282, os⟩ (blockOf (behindTheImports pw) env0 cE ⟨0, 0, 0, 0⟩ tB) = some (.next, (S_block w os).abs, cE, ps_block) := by
  rw [PySem.W.Fast.te14374325043358763698, PySem.W.Fast.te14364793385576792824]
  kernel_rfl
theorem runFin (w : World) (os : OsState) : topRun treeTable pw w 28 annv 2 (S_G w os).abs ⟨doneF .next, cE, ps_G, tB⟩ = some ⟨hp_fin w.params, Array.mk [], {}, 2281, os⟩ := by
  rw [PySem.W.Fast.te14082659384304107361, PySem.W.Fast.te14364793385576792824]
  kernel_rfl
theorem runRest (w : World) (os : OsState) : topRun treeTable pw w 28 annv (9599 + (3209 + (4327 + (422 + (1253 + (373 + (563 + 2))))))) (S_block w os).abs (restOf (behindTheImports pw) env0 cE ps_block tB) = some ⟨hp_fin w.params, Array.mk [], {}, 2281, os⟩ := by
  rw [show restOf (behindTheImports pw) env0 cE ps_block tB = restOf (stsA ++ (stsB ++ (stsC ++ (stsD ++ (stsE ++ (stsF ++ (stsG ++ []))))))) env0 cE ps_block tB from congrArg (fun l => restOf l env0 cE ps_block tB) split_sts]
  exact piece_app (runA w os) (piece_app (runB' w os) (piece_app (runC' w os) (piece_app (runD w os) (piece_app (runE w os) (piece_app (runF w os) (piece_app (runG w os) (piece_nil (runFin w os))))))))
theorem runTop (w : World) (os : OsState) : topRun treeTable pw w 28 annv (12 + (1 + (9599 + (3209 + (4327 + (422 + (1253 + (373 + (563 + 2))))))))) ⟨hp_zero w.params, Array.mk [], {}, 276, os⟩ (topStub pw) = some ⟨hp_fin w.params, Array.mk [], {}, 2281, os⟩ :=
  go_top (runPre w os) (piece_block (runBlock w os) (runRest w os))
noncomputable def ov_open_11 (P : Params) : Obj := ⟨.type "dict", none, .dict #[⟨PyData.keyHash P (Str.ofString "__name__"), .str (Str.ofString "__name__") 247, .str (Str.ofString "_sre") 246⟩, ⟨PyData.keyHash P (Str.ofString "__doc__"), .str (Str.ofString "__doc__") 248, .none⟩, ⟨PyData.keyHash P (Str.ofString "__package__"), .str (Str.ofString "__package__") 250, .str (Str.ofString "") 249⟩, ⟨PyData.keyHash P (Str.ofString "__loader__"), .str (Str.ofString "__loader__") 251, .ref 14⟩, ⟨PyData.keyHash P (Str.ofString "__spec__"), .str (Str.ofString "__spec__") 252, .ref 26⟩, ⟨PyData.keyHash P (Str.ofString "compile"), .str (Str.ofString "compile") 253, .builtin "_sre.compile"⟩, ⟨PyData.keyHash P (Str.ofString "template"), .str (Str.ofString "template") 254, .builtin "_sre.template"⟩, ⟨PyData.keyHash P (Str.ofString "getcodesize"), .str (Str.ofString "getcodesize") 255, .builtin "_sre.getcodesize"⟩, ⟨PyData.keyHash P (Str.ofString "ascii_iscased"), .str (Str.ofString "ascii_iscased") 256, .builtin "_sre.ascii_iscased"⟩, ⟨PyData.keyHash P (Str.ofString "unicode_iscased"), .str (Str.ofString "unicode_iscased") 257, .builtin "_sre.unicode_iscased"⟩, ⟨PyData.keyHash P (Str.ofString "ascii_tolower"), .str (Str.ofString "ascii_tolower") 258, .builtin "_sre.ascii_tolower"⟩, ⟨PyData.keyHash P (Str.ofString "unicode_tolower"), .str (Str.ofString "unicode_tolower") 259, .builtin "_sre.unicode_tolower"⟩, ⟨PyData.keyHash P (Str.ofString "MAGIC"), .str (Str.ofString "MAGIC") 261, .int 20230612 260⟩, ⟨PyData.keyHash P (Str.ofString "CODESIZE"), .str (Str.ofString "CODESIZE") 263, .int 4 262⟩, ⟨PyData.keyHash P (Str.ofString "MAXREPEAT"), .str (Str.ofString "MAXREPEAT") 265, .int 4294967295 264⟩, ⟨PyData.keyHash P (Str.ofString "MAXGROUPS"), .str (Str.ofString "MAXGROUPS") 267, .int 1073741823 266⟩, ⟨PyData.keyHash P (Str.ofString "copyright"), .str (Str.ofString "copyright") 269, .str (Str.ofString " SRE 2.2.2 Copyright (c) 1997-2002 by Secret Labs AB ") 268⟩] 17, #[]⟩
noncomputable def tr_open (P : Params) : BT := (.node (ob_0 P) (.node (ob_1 P) (.node (ov_zero_3 P) (.node (ob_7 P) (.node (ob_15 P) .nil .nil) (.node (ob_23 P) .nil .nil)) (.node (ov_open_11 P) (.node (ob_19 P) .nil .nil) (.node (ob_27 P) .nil .nil))) (.node (ob_5 P) (.node (ob_9 P) (.node (ob_17 P) .nil .nil) (.node (ob_25 P) .nil .nil)) (.node (ob_13 P) (.node (ob_21 P) .nil .nil) .nil))) (.node (ob_2 P) (.node (ob_4 P) (.node (ob_8 P) (.node (ob_16 P) .nil .nil) (.node (ob_24 P) .nil .nil)) (.node (ob_12 P) (.node (ob_20 P) .nil .nil) .nil)) (.node (ob_6 P) (.node (ob_10 P) (.node (ob_18 P) .nil .nil) (.node (ob_26 P) .nil .nil)) (.node (ob_14 P) (.node (ob_22 P) .nil .nil) .nil))))
noncomputable def S_open (w : World) (os : OsState) : SharedT := ⟨tr_open w.params, 28, {}, Array.mk [], {}, 276, os⟩
noncomputable def S_start (os : OsState) : SharedT := ⟨.nil, 0, {}, Array.mk [], {}, 1, os⟩
noncomputable abbrev impq := PySem.W.Fast.tw14789777615569096658
noncomputable abbrev startq := PySem.W.Fast.tw1435165496053646825
def thrOf (r : Option (SharedT × Thread)) : Thread := match r with
  | some (_, t) => t
  | none => ⟨.unsupported "no thread", .builtin "" {}, default, []⟩
noncomputable def Th_open (w : World) (os : OsState) : Thread := thrOf (impq tbq (opening pw) w 798 (S_start os) (startq (opening pw)).2)
theorem impH (w : World) (os : OsState) : impq tbq (opening pw) w 798 (S_start os) (startq (opening pw)).2 = some (S_open w os, Th_open w os) := by kernel_rfl
theorem impL (w : World) (os : OsState) : importEnds treeTable (opening pw) w 1 (S_open w os).abs (Th_open w os) = some (S_open w os).abs := by
  rw [PySem.W.Fast.te10274390034422433532, PySem.W.Fast.te14364793385576792824]
  kernel_rfl
theorem impgo_q {w : World} {n : Nat} {s s' : SharedT} {t t' : Thread} (h : impq tbq (opening pw) w n s t = some (s', t')) : impGo treeTable (opening pw) w n s.abs t = some (s'.abs, t') :=
  impGo_of (by rw [PySem.W.Fast.te14789777615569096658, PySem.W.Fast.te14364793385576792824]; exact h)
noncomputable def he_open (P : Params) : Heap := absHeap (tr_open P) 28 {}
theorem start_two : (start (opening pw)).2 = (startq (opening pw)).2 := by rw [PySem.W.Fast.te1435165496053646825]
theorem start_one : (start (opening pw)).1 = (S_start (start (opening pw)).1.os).abs := by kernel_rfl
theorem openH_gen (w : World) (os : OsState) (s : Shared) (t : Thread) (es : s = (S_start os).abs) (et : t = (startq (opening pw)).2) : importEnds treeTable (opening pw) w (798 + 1) s t = some ⟨he_open w.params, Array.mk [], {}, 276, os⟩ := by
  subst es
  subst et
  exact imp_go (impgo_q (impH w os)) (impL w os)
theorem openH (w : World) : importEnds treeTable (opening pw) w (798 + 1) (start (opening pw)).1 (start (opening pw)).2 = some ⟨he_open w.params, Array.mk [], {}, 276, (start (opening pw)).1.os⟩ :=
  openH_gen w _ _ _ start_one start_two
theorem openF (w : World) : (fun os => (fenceModules? pw ⟨he_open w.params, Array.mk [], {}, 276, os⟩).map (fun s => (s.heap, s.gens, s.drawn, s.toks))) = fun _ => some (hp_zero w.params, Array.mk [], {}, 276) := by
  rw [PySem.W.Fast.te14289696077712309145]
  kernel_rfl
theorem sizeH (w : World) : ((hp_zero w.params).isNs mainGlobals && (Array.mk [] : Array GenState).size == 0, (hp_zero w.params).objs.size, (hp_zero w.params).nsMap mainGlobals "__annotations__") = (true, 28, annv) := by
  rw [PySem.W.Fast.te8920871248978507458]
  kernel_rfl
theorem openAll : ∀ w : World, (fencedOpening treeTable pw w 39604).map (fun s => (s.heap, s.gens, s.drawn, s.toks)) = some (hp_zero w.params, Array.mk [], {}, 276) :=
  open_cut (M := 798 + 1) (He := he_open) (ge := Array.mk []) (de := {}) (ke := 276) openH (by decide) openF
theorem runTop1 (w : World) (os : OsState) : topRun treeTable pw w 28 annv 19761 ⟨hp_zero w.params, Array.mk [], {}, 276, os⟩ (topStub pw) = some ⟨hp_fin w.params, Array.mk [], {}, 2281, os⟩ := runTop w os
abbrev looseL : List Str := [Str.ofString "_QUOPRI_MAP", Str.ofString "_QUOPRI_HEADER_MAP", Str.ofString "_QUOPRI_BODY_MAP", Str.ofString "ascii_letters", Str.ofString "hexdigits", Str.ofString "_QUOPRI_BODY_ENCODE_MAP", Str.ofString "body_encode", Str.ofString "decode", Str.ofString "_twin_re_1", Str.ofString "_special_chars_map"]
abbrev lvL : List (Str × WData) := [(Str.ofString "ascii_letters", WData.str ⟨#[97, 98, 99, 100, 101, 102, 103, 104, 105, 106, 107, 108, 109, 110, 111, 112, 113, 114, 115, 116, 117, 118, 119, 120, 121, 122, 65, 66, 67, 68, 69, 70, 71, 72, 73, 74, 75, 76, 77, 78, 79, 80, 81, 82, 83, 84, 85, 86, 87, 88, 89, 90]⟩), (Str.ofString "hexdigits", WData.str ⟨#[48, 49, 50, 51, 52, 53, 54, 55, 56, 57, 97, 98, 99, 100, 101, 102, 65, 66, 67, 68, 69, 70]⟩)]
def hd.view_39 : Program := PySem.W.view pw [0, 1, 2, 3, 4, 5, 6, 7, 8, 9, 10, 11, 16, 17, 18, 24, 25, 27, 28, 30, 31, 33, 35, 37, 38, 40, 42, 43, 45, 46, 47]
abbrev rowW : RowW := OpenRow.toRowW PySem.Challenge.rw_rt0056_01.row
theorem hd.addrs (P : Params) : (nat_lit 2 :: nat_lit 3 :: nat_lit 32 :: nat_lit 34 :: nat_lit 35 :: nat_lit 37 :: nat_lit 38 :: nat_lit 41 :: nat_lit 55 :: nat_lit 57 :: nat_lit 58 :: nat_lit 60 :: nat_lit 61 :: nat_lit 62 :: nat_lit 64 :: nat_lit 65 :: nat_lit 67 :: nat_lit 68 :: nat_lit 70 :: nat_lit 74 :: nat_lit 75 :: nat_lit 77 :: nat_lit 78 :: nat_lit 80 :: nat_lit 81 :: nat_lit 82 :: nat_lit 83 :: nat_lit 85 :: nat_lit 86 :: nat_lit 88 :: nat_lit 89 :: nat_lit 93 :: nat_lit 94 :: nat_lit 95 :: nat_lit 97 :: nat_lit 98 :: nat_lit 100 :: nat_lit 101 :: nat_lit 103 :: nat_lit 107 :: nat_lit 109 :: nat_lit 110 :: nat_lit 112 :: nat_lit 113 :: nat_lit 114 :: nat_lit 116 :: nat_lit 117 :: nat_lit 119 :: nat_lit 120 :: nat_lit 121 :: nat_lit 123 :: nat_lit 124 :: nat_lit 126 :: nat_lit 127 :: nat_lit 128 :: nat_lit 130 :: nat_lit 131 :: nat_lit 133 :: nat_lit 134 :: nat_lit 135 :: nat_lit 142 :: nat_lit 144 :: nat_lit 145 :: nat_lit 147 :: nat_lit 148 :: nat_lit 149 :: nat_lit 150 :: nat_lit 151 :: nat_lit 154 :: nat_lit 161 :: nat_lit 163 :: nat_lit 164 :: nat_lit 166 :: nat_lit 167 :: nat_lit 168 :: nat_lit 170 :: nat_lit 171 :: nat_lit 173 :: nat_lit 174 :: nat_lit 175 :: nat_lit 177 :: nat_lit 178 :: nat_lit 180 :: nat_lit 181 :: nat_lit 182 :: nat_lit 183 :: nat_lit 184 :: nat_lit 187 :: nat_lit 189 :: nat_lit 190 :: nat_lit 192 :: nat_lit 193 :: nat_lit 194 :: nat_lit 196 :: nat_lit 197 :: nat_lit 199 :: nat_lit 200 :: nat_lit 201 :: nat_lit 203 :: nat_lit 204 :: nat_lit 206 :: nat_lit 207 :: nat_lit 208 :: nat_lit 210 :: nat_lit 211 :: nat_lit 213 :: nat_lit 214 :: nat_lit 215 :: nat_lit 217 :: nat_lit 218 :: nat_lit 220 :: nat_lit 221 :: nat_lit 222 :: nat_lit 225 :: nat_lit 226 :: nat_lit 227 :: nat_lit 230 :: nat_lit 231 :: [] : List Addr) = (hd.heap_39 P).map (·.1) := by kernel_rfl
noncomputable abbrev hookH : Hook := kmHook hd.heap_39 (nat_lit 2 :: nat_lit 3 :: nat_lit 32 :: nat_lit 34 :: nat_lit 35 :: nat_lit 37 :: nat_lit 38 :: nat_lit 41 :: nat_lit 55 :: nat_lit 57 :: nat_lit 58 :: nat_lit 60 :: nat_lit 61 :: nat_lit 62 :: nat_lit 64 :: nat_lit 65 :: nat_lit 67 :: nat_lit 68 :: nat_lit 70 :: nat_lit 74 :: nat_lit 75 :: nat_lit 77 :: nat_lit 78 :: nat_lit 80 :: nat_lit 81 :: nat_lit 82 :: nat_lit 83 :: nat_lit 85 :: nat_lit 86 :: nat_lit 88 :: nat_lit 89 :: nat_lit 93 :: nat_lit 94 :: nat_lit 95 :: nat_lit 97 :: nat_lit 98 :: nat_lit 100 :: nat_lit 101 :: nat_lit 103 :: nat_lit 107 :: nat_lit 109 :: nat_lit 110 :: nat_lit 112 :: nat_lit 113 :: nat_lit 114 :: nat_lit 116 :: nat_lit 117 :: nat_lit 119 :: nat_lit 120 :: nat_lit 121 :: nat_lit 123 :: nat_lit 124 :: nat_lit 126 :: nat_lit 127 :: nat_lit 128 :: nat_lit 130 :: nat_lit 131 :: nat_lit 133 :: nat_lit 134 :: nat_lit 135 :: nat_lit 142 :: nat_lit 144 :: nat_lit 145 :: nat_lit 147 :: nat_lit 148 :: nat_lit 149 :: nat_lit 150 :: nat_lit 151 :: nat_lit 154 :: nat_lit 161 :: nat_lit 163 :: nat_lit 164 :: nat_lit 166 :: nat_lit 167 :: nat_lit 168 :: nat_lit 170 :: nat_lit 171 :: nat_lit 173 :: nat_lit 174 :: nat_lit 175 :: nat_lit 177 :: nat_lit 178 :: nat_lit 180 :: nat_lit 181 :: nat_lit 182 :: nat_lit 183 :: nat_lit 184 :: nat_lit 187 :: nat_lit 189 :: nat_lit 190 :: nat_lit 192 :: nat_lit 193 :: nat_lit 194 :: nat_lit 196 :: nat_lit 197 :: nat_lit 199 :: nat_lit 200 :: nat_lit 201 :: nat_lit 203 :: nat_lit 204 :: nat_lit 206 :: nat_lit 207 :: nat_lit 208 :: nat_lit 210 :: nat_lit 211 :: nat_lit 213 :: nat_lit 214 :: nat_lit 215 :: nat_lit 217 :: nat_lit 218 :: nat_lit 220 :: nat_lit 221 :: nat_lit 222 :: nat_lit 225 :: nat_lit 226 :: nat_lit 227 :: nat_lit 230 :: nat_lit 231 :: []) hd.addrs [115]
abbrev xtL : Shared → Bool := fun s => xlAt hd.view_39 lvL s && recOk (RowW.records rowW) s
theorem looksA (w : World) (os : OsState) : (staticsOk (importedModules pw.main.body) (hp_zero w.params) (hp_fin w.params) && namesBound pw (hp_fin w.params) && gensDone ⟨hp_fin w.params, Array.mk [], {}, 2281, os⟩ && laidKept (hp_zero w.params) (hp_fin w.params)) = true := by
  rw [PySem.W.Fast.te5923862056798008813]
  kernel_rfl
theorem looksB (w : World) (os : OsState) : openSeen hd.view_39 looseL (importedModules pw.main.body) xtL true ⟨hp_fin w.params, Array.mk [], {}, 2281, os⟩ = openGood hd.view_39 looseL := by
  rw [PySem.W.Fast.te4187177175401517315, PySem.W.Fast.te5923862056798008813]
  kernel_rfl
theorem looksC (w : World) (os : OsState) : hookH.obs ⟨hp_fin w.params, Array.mk [], {}, 2281, os⟩ = hookH.val w := by kernel_rfl
theorem looksH (w : World) : (fun os => ((staticsOk (importedModules pw.main.body) (hp_zero w.params) (hp_fin w.params) && namesBound pw (hp_fin w.params) && gensDone ⟨hp_fin w.params, Array.mk [], {}, 2281, os⟩ && laidKept (hp_zero w.params) (hp_fin w.params)),
        openSeen hd.view_39 looseL (importedModules pw.main.body) xtL true ⟨hp_fin w.params, Array.mk [], {}, 2281, os⟩, hookH.obs ⟨hp_fin w.params, Array.mk [], {}, 2281, os⟩)) = fun _ => (true, openGood hd.view_39 looseL, hookH.val w) :=
  funext fun os => looks_pair (looksA w os) (looks_pair (looksB w os) (looksC w os))
theorem leftH : LeftO pw hd.view_39 looseL xtL hookH.obs hookH.val 39604 :=
  LeftO.of_pieces (M := 19761) openAll sizeH runTop1 (by decide) looksH
end

section
abbrev PP : PySem.Program := PySem.Challenge.rw_rt0056_01.row.prog
/-- what a call of a def of the text gives back: a value; k: frames of room -/
abbrev Gv (w : World) (k : Nat) (f : Addr) (vs : List Value) (R : Tok → Value) : Prop :=
  ∀ (loose : List Str) (mean : ExcName → Option Value) (mg mb : Str → Option Value) (news : List (Addr × Obj)) (dp un : Nat) (gd : Option (List Code)) (cn : Str) (cs : Scope) (a : Addr) (ccd : Value) (cl : List (Str × Addr)) (outer : List Env) (A₀ : Around) (base h₀ : Heap) (L : Addr) (m : Str → Option Value) (s : Shared) (Q E : Value → Shared → Prop),
    Below A₀ base outer h₀ → Fr h₀ L s.heap m → (Mine.hd.heap_39 w.params).In h₀ → News h₀ L s.heap news → Top topProg loose mean mg mb h₀ → cs.kind = .function →
    dp + k < recursionLimit → un + 8 * k < cLine →
    (∀ (t : Tok) (h' : Heap) (tk' : Nat), Fr h₀ L h' m → News h₀ L h' news → Q (R t) { s with heap := h', toks := tk' }) →
      wpAny (model PP w) (ktrTop dp un gd cn cs L a ccd cl outer) (call (.ref f) vs) Q E s
theorem gv_use {w : World} {k : Nat} {f : Addr} {vs : List Value} {R : Tok → Value} (g : Gv w k f vs R) {loose : List Str} {mean : ExcName → Option Value} {mg mb : Str → Option Value} {news : List (Addr × Obj)} {dp un : Nat} {gd : Option (List Code)} {cn : Str} {cs : Scope} {a : Addr} {ccd : Value} {cl : List (Str × Addr)} {outer : List Env} {A₀ : Around} {base h₀ : Heap} {L : Addr} {m : Str → Option Value} {s : Shared} {Q E : Value → Shared → Prop}
    (B : Below A₀ base outer h₀) (F : Fr h₀ L s.heap m) (X : (Mine.hd.heap_39 w.params).In h₀) (N : News h₀ L s.heap news) (T : Top topProg loose mean mg mb h₀) (hk : cs.kind = .function)
    (hd : dp + k < recursionLimit) (hu : un + 8 * k < cLine) (ret : ∀ (t : Tok) (h' : Heap) (tk' : Nat), Fr h₀ L h' m → News h₀ L h' news → Q (R t) { s with heap := h', toks := tk' }) :
    wpAny (model PP w) (ktrTop dp un gd cn cs L a ccd cl outer) (call (.ref f) vs) Q E s :=
  g loose mean mg mb news dp un gd cn cs a ccd cl outer A₀ base h₀ L m s Q E B F X N T hk hd hu ret
end

section
/-- as Gv, with a word on the caller's ledger -/
abbrev Gn (w : World) (k : Nat) (f : Addr) (vs : List Value) (Pre : List (Addr × Obj) → Prop) (R : Tok → Value) : Prop :=
  ∀ (loose : List Str) (mean : ExcName → Option Value) (mg mb : Str → Option Value) (news : List (Addr × Obj)) (dp un : Nat) (gd : Option (List Code)) (cn : Str) (cs : Scope) (a : Addr) (ccd : Value) (cl : List (Str × Addr)) (outer : List Env) (A₀ : Around) (base h₀ : Heap) (L : Addr) (m : Str → Option Value) (s : Shared) (Q E : Value → Shared → Prop),
    Below A₀ base outer h₀ → Fr h₀ L s.heap m → (Mine.hd.heap_39 w.params).In h₀ → News h₀ L s.heap news → Pre news → Top topProg loose mean mg mb h₀ → cs.kind = .function →
    dp + k < recursionLimit → un + 8 * k < cLine →
    (∀ (t : Tok) (h' : Heap) (tk' : Nat), Fr h₀ L h' m → News h₀ L h' news → Q (R t) { s with heap := h', toks := tk' }) →
      wpAny (model PP w) (ktrTop dp un gd cn cs L a ccd cl outer) (call (.ref f) vs) Q E s
theorem gn_use {w : World} {k : Nat} {f : Addr} {vs : List Value} {Pre : List (Addr × Obj) → Prop} {R : Tok → Value} (g : Gn w k f vs Pre R) {loose : List Str} {mean : ExcName → Option Value} {mg mb : Str → Option Value} {news : List (Addr × Obj)} {dp un : Nat} {gd : Option (List Code)} {cn : Str} {cs : Scope} {a : Addr} {ccd : Value} {cl : List (Str × Addr)} {outer : List Env} {A₀ : Around} {base h₀ : Heap} {L : Addr} {m : Str → Option Value} {s : Shared} {Q E : Value → Shared → Prop}
    (B : Below A₀ base outer h₀) (F : Fr h₀ L s.heap m) (X : (Mine.hd.heap_39 w.params).In h₀) (N : News h₀ L s.heap news) (P : Pre news) (T : Top topProg loose mean mg mb h₀) (hk : cs.kind = .function)
    (hd : dp + k < recursionLimit) (hu : un + 8 * k < cLine) (ret : ∀ (t : Tok) (h' : Heap) (tk' : Nat), Fr h₀ L h' m → News h₀ L h' news → Q (R t) { s with heap := h', toks := tk' }) :
    wpAny (model PP w) (ktrTop dp un gd cn cs L a ccd cl outer) (call (.ref f) vs) Q E s :=
  g loose mean mg mb news dp un gd cn cs a ccd cl outer A₀ base h₀ L m s Q E B F X N P T hk hd hu ret
end

section
-- the walk's own lines
local macro_rules | `(tactic| walk_at "mine enter") => `(tactic| first
  | (refine' code_defL ?k1 ?k2 ?k3 ?k4 ?k5 ?kA ?kF ?kK ?k6 ?k7 ?k8 ?k9 ?kB ?_ ?c2 ?c3 ?c4 ?c5; (case kA => exact rfl); (case kF => exact rfl); (case kK => first | exact rfl | assumption); (case k1 => k_asm); (case k2 => k_asm); (case k3 => k_asm); (case k4 => k_asm); (case k5 => k_asm); (case k6 => k_is); (case k7 => k_is); (case k8 => ktr_room); (case k9 => first | exact BindsTo.of_eq rfl | exact binds_K (by k_in) rfl (by k_is) rfl rfl rfl); (case c5 => decide); (case kB => exact locs rfl); (case c2 => exact rfl); (case c3 => exact rfl); (case c4 => exact rfl); k_whole; intro g' L' h' FG' F' N' B' X' T'; (try dsimp only); (try k_lift B'); (try k_fold))
  | (refine' code_defCL ?k1 ?k2 ?k3 ?k4 ?k5 ?kA ?kF ?kK ?k6 ?k7 ?k8 ?k9 ?kB ?kD ?_ ?c2 ?c3 ?c4; (case kA => exact rfl); (case kF => exact rfl); (case kK => first | exact rfl | assumption); (case k1 => k_asm); (case k2 => k_asm); (case k3 => k_asm); (case k4 => k_asm); (case k5 => k_asm); (case k6 => k_is); (case k7 => k_is); (case k8 => ktr_room); (case k9 => first | exact BindsTo.of_eq rfl | exact binds_K (by k_in) rfl (by k_is) rfl rfl rfl); (case kB => exact rfl); (case kD => decide +kernel); (case c2 => exact rfl); (case c3 => exact rfl); (case c4 => exact rfl); k_whole; intro g' L' h' tk' cells' FG' F' N' Y' B' X' T' l1; (try k_lt l1); k_cells Y'; (try simp only [List.cons_append, List.nil_append] at N'); (try dsimp only); (try k_lift B'); (try k_fold)))
local macro_rules | `(tactic| walk_at "getMethod str") => `(tactic| (k_here; (with_reducible show wpAny _ _ (getMethod (Value.str _ _) (Str.ofString "translate") _) _ _ _); refine gm_translate ?_))
local macro_rules | `(tactic| walk_at "call builtin:issubclass") => `(tactic| (k_here; (with_reducible show wpAny _ _ (call (Value.builtin "issubclass") [Value.type "str", Value.ref _]) _ _ _); refine call_issub (News.get (by k_asm) (by k_mem)) ?_))
local macro_rules | `(tactic| walk_at "call type:int") => `(tactic| (k_here; (with_reducible show wpAny _ _ (call (Value.type "int") [Value.str _ _, Value.int 16 _]) _ _ _); refine call_unhex (by assumption) (by assumption) ?_))
local macro_rules | `(tactic| walk_at "mine len") => `(tactic| first | omega | (simp only [Str.length_append, repS_length, escS_length, sgn_length, nl_length, one_length, lbS_length, List.length_append, List.length_cons, List.length_nil, sizeLine_eq]; omega) | (simp only [Str.length_append, repS_length, escS_length, sizeLine_eq]; decide))
local macro_rules | `(tactic| walk_at "truthy str") => `(tactic| (k_here; (with_reducible show wpAny _ _ (truthy (Value.str _ _)) _ _ _); refine truthy_pos (by walk_at "mine len") (by walk_at "mine len") ?_))
local macro_rules | `(tactic| walk_at "call builtin:str.translate") => `(tactic| (k_here; (with_reducible show wpAny _ _ (call (Value.builtin "str.translate") [Value.str _ _, Value.ref 70]) _ _ _); k_dflt (refine' tr_tab (by k_asm) (by k_asm) (by k_is) (by decide +kernel) (by assumption) (by assumption) (by assumption) (by assumption) (by omega) ?_; intro t' k')))
local macro_rules | `(tactic| walk_at "getAttr ref") => `(tactic| (k_here; (with_reducible show wpAny _ _ (getAttr (Value.ref _) (Str.ofString "append") _) _ _ _); k_dflt (refine' getAttr_appendN (by k_asm) (by k_asm) (by k_mem) ?_; intro q' h' F' N' l1; (try k_lt l1); (try k_sweep))))
local macro_rules | `(tactic| walk_at "callWith ref") => `(tactic| (k_here; k_dflt (refine' callWith_bm (by k_asm) (by k_mem) ?_; k_whole)))
local macro_rules | `(tactic| walk_at "And") => `(tactic| ((with_reducible show BmP _ _ _ ∧ _); k_dflt (refine ⟨bmP (by k_asm) (by k_mem), ?_⟩); try dsimp only [List.nil_append, List.cons_append]))
local macro_rules | `(tactic| walk_at "call ref") => `(tactic| (k_here; (with_reducible show wpAny _ _ (call (Value.ref _) [_]) _ _ _); k_dflt (refine' bm_append (by k_asm) (by k_asm) (by k_mem) (by k_upd) ?_ (by walk_at "mine len"); intro h' F' N'; (try k_sweep))))
local macro_rules | `(tactic| walk_at "mine ok") => `(tactic| first | assumption | exact (fun _ h => okc_break (reps_ok (by assumption) _ h)) | exact (fun _ h => okc_break (by assumption)))
local macro_rules | `(tactic| walk_at "call builtin:str.splitlines") => `(tactic| (k_here; k_dflt (dsimp only); (with_reducible show wpAny _ _ (call (Value.builtin "str.splitlines") [Value.str _ _]) _ _ _); k_dflt (refine' splitlines_one (by k_asm) (by k_asm) (by walk_at "mine len") (by walk_at "mine len") (by walk_at "mine ok") ?_; intro l' h' F' N' l1; (try k_lt l1); (try k_sweep))))
local macro_rules | `(tactic| walk_at "pyIter ref") => `(tactic| (k_here; refine Halt.mk ?_))
local macro_rules | `(tactic| walk_at "exec While Compare cons nil") => `(tactic| (k_here; refine Halt.mk ?_))
local macro_rules | `(tactic| walk_at "exec While BoolOp cons nil") => `(tactic| (k_here; refine Halt.mk ?_))
local macro_rules | `(tactic| walk_at "exec While Constant cons nil") => `(tactic| (k_here; refine Halt.mk ?_))
local macro_rules | `(tactic| walk_at "UnrEnd") => `(tactic| (k_here; refine Halt.mk ?_))
local macro_rules | `(tactic| k_all) => `(tactic| first | exact ne_of_lt_all (by assumption) | exact ne_of_allLt (by assumption) | exact ne_of_allLt (And.right (by assumption)) | exact ne_of_allLt (And.right (And.right (by assumption))) | exact ne_of_allLt (And.right (And.right (And.right (by assumption)))) | exact ne_of_allLt (And.right (And.right (And.right (And.right (by assumption))))))
local macro_rules | `(tactic| walk_at "call builtin:len") => `(tactic| (k_here; (with_reducible show wpAny _ _ (call (Value.builtin "len") [Value.str _ _]) _ _ _); refine len_any (by walk_at "mine len") ?_; intro t' k'))
local macro_rules | `(tactic| walk_at "WhileStep") => `(tactic| (k_here; refine Halt.mk ?_))
local macro_rules | `(tactic| walk_at "ite") => `(tactic| (k_here; (with_reducible show ite ((Txt.item (repS _ (escS _)) _ == Str.ofString "=") = true) _ _); first | refine ite_pos (sign_is (by omega) (by omega) (by omega)) ?_ | refine ite_neg (sign_no (by assumption) (by omega) (by omega) (by omega)) ?_))
local macro_rules | `(tactic| walk_at "compareOp In str str") => `(tactic| (k_here; k_dflt (refine in_no (by assumption) (by omega) (by decide +kernel) ?_)))
local macro_rules | `(tactic| walk_at "call builtin:str.join") => `(tactic| (k_here; (with_reducible show wpAny _ _ (call (Value.builtin "str.join") [Value.str _ _, Value.ref _]) _ _ _); k_dflt (refine' join_N (by k_asm) (by k_mem) (by first | assumption | exact Strs.push (by assumption) _ _) (by walk_at "mine lines") (by walk_at "mine total") ?_; intro t' k')))
local macro_rules | `(tactic| walk_at "mine sub") => `(tactic| (intro p hp; repeat (first | exact hp | refine List.Mem.tail _ ?_)))
local macro_rules | `(tactic| walk_at "mine drop") => `(tactic| first | k_asm | (refine' cb_drop (by assumption) (by walk_at "mine sub")))
local macro_rules | `(tactic| walk_at "ite") => `(tactic| (k_here; k_dflt (first | refine ite_neg (by first | omega | (simp only [decide_eq_true_eq, beq_iff_eq, Bool.not_eq_true]; omega)) ?_ | refine ite_pos (by first | omega | (simp only [decide_eq_true_eq, beq_iff_eq, Bool.not_eq_true]; omega)) ?_)))
local macro_rules | `(tactic| size_fits) => `(tactic| walk_at "mine len")

theorem fill_all : PySem.Challenge.rw_rt0056_01 = PySem.Challenge.rw_rt0056_01 ∧ Mine.hd.heap_39 = Mine.hd.heap_39 := by
  k_fill
  exact ⟨rfl, rfl⟩

section
theorem fresh_C5 : True := by
  w_top off
  exact True.intro
local macro_rules | `(tactic| walk_at "mine lines") => `(tactic| exact lines_len (by assumption) (by assumption))
local macro_rules | `(tactic| walk_at "mine total") => `(tactic| exact total_ok (by simp only [List.length_append, List.length_replicate, List.length_cons, List.length_nil]; omega) (by assumption))
set_option maxRecDepth 100000 in
set_option maxHeartbeats 8000000 in
theorem body_c (w : World) (c n room more : Nat) (x z : Str) (t k u : Tok) (hx : x.cps.toList = List.replicate n c) (h1 : 127 ≤ c) (h2 : c < 256) (hn : 1 ≤ n) (hn2 : n ≤ 12) (hr : 1 ≤ room) (hr2 : room ≤ 12) (hm : 1 ≤ more) (hm2 : more ≤ 3) (hz : z.length ≤ 4) :
   Gv w 2 81 [.str x t, .int (3 * room + more : Nat) k, .str z u] (fun t => .str (bodyT c n room more z) t) := by
  have hxl : x.length = n := by show x.cps.size = n; rw [← Array.length_toList, hx, List.length_replicate]
  have hyl : (repS n (escS c)).length = 3 * n := by rw [repS_length, escS_length]; omega
  intro loose mean mg mb news dp un gd cn cs a ccd cl outer A₀ base h₀ L m s Q E B F X N T hk hd hu hret
  refine wpAny_call ?_
  k_dflt walk_at "mine enter"
  k_steps
  unfold Halt
  refine for_one rfl (by k_asm) (by k_asm) (by k_mem) rfl rfl (fun I it h tk hI F1 N1 => ?_)
  (try k_lt hI)
  k_steps
  unfold Halt
  refine wpAny_noRaise ?_
  rename Fr _ _ _ _ => F2
  rename News _ _ _ _ => N2
  refine while_1 (pre := [_, _, _]) (Str.ofString "start") (Str.ofString "stop") (fun j v o => ∃ (i p : Nat) (its : Array Value) (nn : Nat) (tk : Tok), p = room * i ∧ v = .int (3 * p : Nat) tk ∧ o = listOf its nn ∧ Strs its (List.replicate i (lbS c room)) ∧ j + i = brk n room more) (n₀ := brk n room more) F2 N2 rfl ⟨0, 0, _, 0, _, rfl, rfl, rfl, Strs.nil, rfl⟩ ?_ PassesOwn.never
  rintro j v o u3 h3 tk3 ⟨i, p, its, nn, tk4, hp, rfl, rfl, hS, hj⟩ F3 N3
  dsimp only [List.cons_append, List.nil_append] at N3
  have hB : brk n room more ≤ 12 := Nat.le_trans brk_le hn2
  have hsz : its.size = i := by rw [hS.size, List.length_replicate]
  have hpi : p ≤ n - (more + 1) / 2 := brk_in hr hp (by omega)
  obtain rfl | rfl | rfl : more = 1 ∨ more = 2 ∨ more = 3 := by omega
  all_goals k_steps
  all_goals unfold Halt
  all_goals first
    | refine WhileStep.intro (by k_asm) (by k_asm) (n' := j - 1) ?_ ⟨_, _, _, map_step, rfl, i + 1, p + room, _, _, _, ?_, int_eq ?_, rfl, hS.pushR ?_ _, ?_⟩
    | skip
  all_goals first
    | omega
    | (have := brk_step (n := n) (more := 1) hr hp (by omega); omega)
    | (have := brk_step (n := n) (more := 2) hr hp (by omega); omega)
    | (have := brk_step (n := n) (more := 3) hr hp (by omega); omega)
    | (rw [hp, Nat.mul_add, Nat.mul_one]; done)
    | (rw [slice_rep (p := p) (q := room) rfl (by omega) (by omega) (by omega), lit_eq]; rfl)
    | (rw [slice_rep1 (p := p) (q := room) (by omega) (by omega) (by omega)]; rfl)
    | skip
  all_goals (refine ⟨_, _, _, _, rfl, by k_asm, by k_asm, ?off, by k_mem, fun h5 tk5 F5 N5 => ?_⟩; (case off => k_all))
  all_goals (
    have hi := brk_end' hr hp hj (by omega)
    rw [slice_repN (i := ((3 * p : Nat) : Int)) (p := p) (n := n) (y := escS c) rfl (by omega) (by omega)] at N5
    subst hi
    subst hp)
  all_goals k_steps
  all_goals exact hret _ _ _ (by k_asm) (by walk_at "mine drop")
end

section
theorem fresh_C6 : True := by
  w_top off
  exact True.intro
local macro_rules | `(tactic| walk_at "call builtin:str.translate") => `(tactic| (k_here; (with_reducible show wpAny _ _ (call (Value.builtin "str.translate") [Value.str _ _, Value.ref 103]) _ _ _); kt_k; refine call_tr_okc (by with_reducible assumption) (by with_reducible assumption) (by decide) (by k_asm) (by k_asm) rfl ?_; intro t' h' k' F' N'))
set_option maxRecDepth 100000 in
set_option maxHeartbeats 8000000 in
theorem fspath_g (w : World) (x : Str) (t : Tok) : Gv w 1 200 [.str x t] (fun t => .str x t) := by
  intro loose mean mg mb news dp un gd cn cs a ccd cl outer A₀ base h₀ L m s Q E B F X N T hk hd hu hret
  refine wpAny_call ?_
  k_dflt walk_at "mine enter"
  k_steps
  all_goals exact hret _ _ _ (by k_asm) (by walk_at "mine drop")

set_option maxRecDepth 100000 in
set_option maxHeartbeats 8000000 in
theorem unquote_g (w : World) (c : Nat) (x : Str) (t : Tok) (hx : x = escS c) (h1 : 127 ≤ c) (h2 : c < 256) : Gv w 1 61 [.str x t] (fun t => .str ⟨#[c]⟩ t) := by
  subst hx
  intro loose mean mg mb news dp un gd cn cs a ccd cl outer A₀ base h₀ L m s Q E B F X N T hk hd hu hret
  refine wpAny_call ?_
  k_dflt walk_at "mine enter"
  k_steps
  all_goals exact hret _ _ _ (by k_asm) (by walk_at "mine drop")

set_option maxRecDepth 100000 in
set_option maxHeartbeats 8000000 in
theorem quote_g (w : World) (c : Nat) (t : Tok) (h1 : 127 ≤ c) (h2 : c < 256) : Gv w 1 68 [.str ⟨#[c]⟩ t] (fun t => .str (escS c) t) := by
  intro loose mean mg mb news dp un gd cn cs a ccd cl outer A₀ base h₀ L m s Q E B F X N T hk hd hu hret
  refine wpAny_call ?_
  k_dflt walk_at "mine enter"
  k_steps
  all_goals refine cb_retS hret ?e (by k_asm) (by walk_at "mine drop")
  all_goals exact tab_eq _ (by decide +kernel) h1 h2

set_option maxRecDepth 100000 in
set_option maxHeartbeats 8000000 in
theorem escape_g (w : World) (c : Nat) (t : Tok) (hc : okc c = true) : Gv w 1 113 [.str ⟨#[c]⟩ t] (fun t => .str ⟨#[c]⟩ t) := by
  intro loose mean mg mb news dp un gd cn cs a ccd cl outer A₀ base h₀ L m s Q E B F X N T hk hd hu hret
  refine wpAny_call ?_
  k_dflt walk_at "mine enter"
  k_steps
  all_goals exact hret _ _ _ (by k_asm) (by walk_at "mine drop")
end

section
theorem fresh_C7 : True := by
  w_top off
  exact True.intro
local macro_rules | `(tactic| walk_at "mine ok") => `(tactic| exact reps_ok (by assumption))
local macro_rules | `(tactic| walk_at "call builtin:str.rstrip") => `(tactic| (k_here; (with_reducible show wpAny _ _ (call (Value.builtin "str.rstrip") [Value.str _ _]) _ _ _); refine rstrip_ok (by walk_at "mine ok") (by walk_at "mine len") ?_; intro t' k'))
local macro_rules | `(tactic| walk_at "compareOp NotEq str str") => `(tactic| (k_here; k_dflt (refine ne_sign (by omega) (by omega) (by omega) ?_)))
local macro_rules | `(tactic| walk_at "compareOp In str str") => `(tactic| (k_here; k_dflt (refine in_hex (by decide +kernel) (by assumption) (by omega) (by omega) (by omega) ?_)))
local macro_rules | `(tactic| walk_at "compareOp NotIn str str") => `(tactic| (k_here; k_dflt (refine notin_no (by omega) (by decide +kernel) ?_)))
local macro_rules | `(tactic| walk_at "inplaceOp Add str str") => `(tactic| (k_here; (with_reducible show wpAny _ _ (inplaceOp _ (Value.str _ _) (Value.str _ _)) _ _ _); refine iadd_any (by walk_at "mine len") ?_; intro t' k'))
local macro_rules | `(tactic| walk_at "call ref") => `(tactic| (k_here; (with_reducible show wpAny _ _ (call (Value.ref 61) [Value.str _ _]) _ _ _); k_dflt (refine' gv_use (unquote_g _ _ _ _ ?hx (by assumption) (by assumption)) ?B ?F ?X ?N ?T ?hk ?hd ?hu ?_; (case B => k_asm); (case F => k_asm); (case X => k_asm); (case N => k_asm); (case T => k_asm); (case hk => first | exact rfl | assumption); (case hd => ktr_room); (case hu => ktr_units); (case hx => exact slice_one (by omega) (by omega) (by omega) (by omega)); intro t' h' k' F' N')))
local macro_rules | `(tactic| walk_at "call builtin:str.endswith") => `(tactic| (k_here; k_dflt (refine call_ends ?_)))
set_option maxRecDepth 100000 in
set_option maxHeartbeats 8000000 in
theorem decode_g (w : World) (c r : Nat) (t : Tok) (h1 : 127 ≤ c) (h2 : c < 256) (hr : 1 ≤ r) (hr2 : r ≤ 30) : Gv w 2 89 [.str (repS r (escS c)) t] (fun t => .str (sgn r c) t) := by
  have hyl : (repS r (escS c)).length = 3 * r := by rw [repS_length, escS_length]; omega
  intro loose mean mg mb news dp un gd cn cs a ccd cl outer A₀ base h₀ L m s Q E B F X N T hk hd hu hret
  refine wpAny_call ?_
  k_dflt walk_at "mine enter"
  k_steps
  unfold Halt
  refine for_one rfl (by k_asm) (by k_asm) (by k_mem) rfl rfl (fun I it h tk hI F1 N1 => ?_)
  (try k_lt hI)
  k_steps
  unfold Halt
  refine wpAny_noRaise ?_
  rename Fr _ _ _ _ => F2
  rename News _ _ _ _ => N2
  refine while_2 (Str.ofString "i") (Str.ofString "decoded") (Str.ofString "c") (fun j v v' => ∃ (q : Nat) (tk tk' : Tok), j + q = r ∧ v = .int (3 * q : Nat) tk ∧ v' = .str (decD r c q) tk') (n₀ := r) (by decide) F2 N2 rfl rfl ⟨0, _, _, rfl, rfl, congrArg (fun x => Value.str x _) (decD_zero hr)⟩ ?_ PassesOwn.never
  rintro j v v' u3 h3 tk3 ⟨q, tk4, tk5, hj, rfl, rfl⟩ F3 N3
  have hdl := decD_length (r := r) (c := c) (q := q) (by omega)
  k_steps
  all_goals unfold Halt
  · refine WhileStep.intro (by k_asm) (by k_asm) (n' := j - 1) (by omega) ⟨_, _, _, map_2123 (by decide), rfl, q + 1, _, _, by omega, int_eq (by omega), str_eq ?_⟩
    obtain rfl : r = q + 1 := by omega
    rw [decD_lt (by omega), sgn_push, decD_end]
  · refine WhileStep.intro (by k_asm) (by k_asm) (n' := j - 1) (by omega) ⟨_, _, _, map_321, rfl, q + 1, _, _, by omega, int_eq (by omega), str_eq ?_⟩
    rw [decD_lt (by omega), sgn_push, decD_lt (by omega)]
  · obtain rfl : q = r := by omega
    refine ⟨_, _, _, _, rfl, by k_asm, by k_asm, ?off, by k_mem, fun h5 tk5 F5 N5 => ?_⟩
    case off => k_all
    rw [decD_end] at F5
    k_steps
    all_goals refine cb_retS hret ?e (by k_asm) (by walk_at "mine drop")
    all_goals exact slice_cut _ _ (by rw [nl_length]; rfl)
end

section
theorem fresh_N1 : True := by
  w_top off
  exact True.intro
local macro_rules | `(tactic| walk_at "mine bound") => `(tactic| first | assumption | omega)
local macro_rules | `(tactic| walk_at "call builtin:str.split") => `(tactic| (k_here; (with_reducible show wpAny _ _ (call (Value.builtin "str.split") [_, _]) _ _ _); refine KSpl.split1 (by k_asm) (by k_asm) (by decide) ?_ (by first | omega | (rw [sizeLine_eq]; omega)); intro D' l' h' k' e' a' F' N' l1; (try k_lt l1)))
local macro_rules | `(tactic| walk_at "call ref") => `(tactic| (k_here; (with_reducible show wpAny _ _ (call (Value.ref 200) [Value.str _ _]) _ _ _); k_dflt (refine' gv_use (fspath_g _ _ _) (by k_asm) (by k_asm) (by k_asm) (by k_asm) (by k_asm) (by first | exact rfl | assumption) (by ktr_room) (by ktr_units) ?_; intro t' h' k' F' N')))
local macro_rules | `(tactic| walk_at "call ref") => `(tactic| (k_here; (with_reducible show wpAny _ _ (call (Value.ref 207) [Value.str _ _]) _ _ _); k_dflt (refine wpAny_call ?_; walk_at "mine enter")))
local macro_rules | `(tactic| walk_at "mine len") => `(tactic| first | omega | assumption)
theorem ne_slash {prog : Program} {w : World} {A : Around} {E : Value → Shared → Prop} {s : Shared} {X : Str} {i : Int} {t u : Tok} {Q : Value → Shared → Prop} (hx : Txt.slice X none (some 1) = ⟨#[61]⟩) (hi : i = 1) (h : Q (.bool true) s) :
    wpAny (model prog w) A (compareOp .NotEq (.str (Txt.slice X none (some i)) t) (.str (Str.ofString "/") u)) Q E s := by
  refine PyProof.Rows.ne_str ?_
  rw [hi, hx, show ((⟨#[61]⟩ : Str) != Str.ofString "/") = true by decide +kernel]; exact h
theorem ne_lens {prog : Program} {w : World} {A : Around} {E : Value → Shared → Prop} {s : Shared} {x : Str} {t u : Tok} {Q : Value → Shared → Prop} (hx : 3 ≤ x.length) (h : Q (.bool true) s) :
    wpAny (model prog w) A (compareOp .NotEq (.str x t) (.str (Str.ofString "..") u)) Q E s := by
  refine PyProof.Rows.ne_str ?_
  have : (x != Str.ofString "..") = true := by
    unfold bne
    rw [ne_len (by have : (Str.ofString "..").length = 2 := by decide +kernel
                   omega)]
    rfl
  rw [this]; exact h
theorem eq_lens {prog : Program} {w : World} {A : Around} {E : Value → Shared → Prop} {s : Shared} {x : Str} {t u : Tok} {Q : Value → Shared → Prop} (hx : 3 ≤ x.length) (h : Q (.bool false) s) :
    wpAny (model prog w) A (compareOp .Eq (.str x t) (.str (Str.ofString ".") u)) Q E s := by
  refine PyProof.Rows.eq_str ?_
  rw [ne_len (by have : (Str.ofString ".").length = 1 := by decide +kernel
                 omega)]; exact h
theorem eq_dots {prog : Program} {w : World} {A : Around} {E : Value → Shared → Prop} {s : Shared} {x : Str} {t u : Tok} {Q : Value → Shared → Prop} (hx : 3 ≤ x.length) (h : Q (.bool false) s) :
    wpAny (model prog w) A (compareOp .Eq (.str x t) (.str (Str.ofString "..") u)) Q E s := by
  refine PyProof.Rows.eq_str ?_
  rw [ne_len (by have : (Str.ofString "..").length = 2 := by decide +kernel
                 omega)]; exact h
theorem truthy_one {prog : Program} {w : World} {A : Around} {E : Value → Shared → Prop} {s : Shared} {h₀ : Heap} {L l : Addr} {news : List (Addr × Obj)} {v : Value} {nn : Nat} {Q : Bool → Shared → Prop} (N : News h₀ L s.heap news) (hm : (l, listOf #[v] nn) ∈ news)
    (h : ∀ k, Q true { s with toks := k }) : wpAny (model prog w) A (truthy (.ref l)) Q E s :=
  wpAny_truthy_list (N.isList hm) (by show ((1 : Nat) : Int) < 2 ^ 63; decide) (h _)
theorem add_empty {prog : Program} {w : World} {A : Around} {E : Value → Shared → Prop} {s : Shared} {y : Str} {t u : Tok} {Q : Value → Shared → Prop} (hl : y.length ≤ 100) (h : ∀ t' k, Q (.str y t') { s with toks := k }) :
    wpAny (model prog w) A (binaryOp .Add (.str (Str.ofString "") t) (.str (Txt.join (Str.ofString "/") [y]) u)) Q E s := by
  have e0 : Txt.join (Str.ofString "/") [y] = y := by cases y; rfl
  have e1 : Str.ofString "" ++ y = y := by
    apply str_ext
    rw [app_list, show (Str.ofString "").cps.toList = [] by decide +kernel]; rfl
  rw [e0]
  refine PyProof.Rows.add_str (fun t' k => ?_) ?_
  · rw [e1]; exact h t' k
  · have : (Str.ofString "").length = 0 := by decide +kernel
    rw [sizeLine_eq]; omega
local macro_rules | `(tactic| walk_at "truthy ref") => `(tactic| (k_here; (with_reducible show wpAny _ _ (truthy (Value.ref _)) _ _ _); k_dflt (refine' truthy_one (by k_asm) (by k_mem) ?_); intro k'))
local macro_rules | `(tactic| walk_at "binaryOp Add str str") => `(tactic| (k_here; refine add_empty (by with_reducible assumption) ?_; intro t' k'))
local macro_rules | `(tactic| walk_at "exec For Name Name cons nil") => `(tactic| (k_here; (rename Fr _ _ _ _ => lF'); (with_unfolding_all refine' For_invVF lF' (by exact rfl) (by exact rfl) ?_; k_whole)))
local macro_rules | `(tactic| walk_at "compareOp NotEq str str") => `(tactic| (k_here; first | refine ne_slash (by with_reducible assumption) (by first | rfl | decide) ?_ | refine ne_lens (by with_reducible assumption) ?_))
local macro_rules | `(tactic| walk_at "compareOp Eq str str") => `(tactic| (k_here; first | refine eq_lens (by with_reducible assumption) ?_ | refine eq_dots (by with_reducible assumption) ?_))
set_option maxRecDepth 100000 in
set_option maxHeartbeats 1000000 in
theorem normpath_g (w : World) (X lb rest : Str) (b : Nat) (t : Tok) (hX1 : 1 ≤ X.length) (hX2 : X.length ≤ 10000) (hX3 : Txt.slice X none (some 1) = ⟨#[61]⟩) (hX4 : Txt.split X (Str.ofString "/") = pp lb rest b)
    (hl1 : 3 ≤ lb.length) (hr1 : 3 ≤ rest.length) (hl2 : lb.length ≤ 100) (hr2 : rest.length ≤ 100) : Gv w 2 214 [.str X t] (fun t => .str rest t) := by
  intro loose mean mg mb news dp un gd cn cs a ccd cl outer A₀ base h₀ L m s Q E B F X0 N T hk hd hu hret
  refine wpAny_call ?_
  k_dflt walk_at "mine enter"
  k_steps
  k_dflt (refine wpAny_call ?_; walk_at "mine enter")
  k_steps
  unfold Halt
  rename List.map _ _ = _ => he
  refine for_acc (PN lb rest) rfl (by k_asm) (by k_asm) (by k_mem) rfl rfl (PN.start (he.trans hX4)) ?turn ?last
  case turn =>
    intro I v r its nn it h tk hI hp hit F1 N1
    (try k_lt hI)
    rcases PN.step hl1 hr1 hl2 hr2 hp with ⟨rfl, y, t1, rfl, hy1, hy2, hp2⟩ | ⟨t1, t2, rfl, rfl, hp2⟩
    · k_steps
      all_goals (try unfold Halt)
      all_goals refine ⟨_, _, _, _, rfl, by k_asm, by k_asm, ?off, ⟨by k_mem, _, _, _, rfl, rfl, hp2⟩⟩
      all_goals k_all
    · k_steps
      all_goals (try unfold Halt)
      all_goals refine ⟨_, _, _, _, rfl, by k_asm, by k_asm, ?off2, ⟨by k_mem, _, _, _, rfl, rfl, hp2⟩⟩
      all_goals k_all
  case last =>
    intro its nn u h tk hp F1 N1
    obtain ⟨t9, rfl⟩ := PN.last hp
    k_steps
    all_goals exact hret _ _ _ (by k_asm) (by walk_at "mine drop")
end

section
theorem fresh_J1 : True := by
  w_top off
  exact True.intro
theorem isnot_str_ref {prog : Program} {w : World} {A : Around} {E : Value → Shared → Prop} {s : Shared} {x : Str} {t : Tok} {a : Addr} {Q : Value → Shared → Prop} (h : Q (.bool true) s) : wpAny (model prog w) A (compareOp .IsNot (.str x t) (.ref a)) Q E s := by
  unfold compareOp
  repeat (any_goals (first | assumption | wp_step))
def CutT (P : Prop) : Prop := P
theorem cut_test {M : Model} {A : Around} {E : Value → Shared → Prop} {s : Shared} {test : Sem Bool} {T G : Shared → Prop} {h₀ : Heap} {L : Addr} {m : Str → Option Value} {news : List (Addr × Obj)} (F : Fr h₀ L s.heap m) (N : News h₀ L s.heap news)
    (h1 : Fr h₀ L s.heap m → News h₀ L s.heap news → wpAny M A test (fun b s' => CutT (b = false ∧ ∃ h tk, s' = { s with heap := h, toks := tk } ∧ Fr h₀ L h m ∧ News h₀ L h news)) E s)
    (h2 : ∀ h tk, Fr h₀ L h m → News h₀ L h news → G { s with heap := h, toks := tk }) : wpAny M A test (fun b s₂ => if b = true then T s₂ else G s₂) E s :=
  wpAny_mono (h1 F N) (fun f s' ⟨e, h, tk, e2, F, N⟩ => by subst e e2; rw [if_neg Bool.false_ne_true]; exact h2 h tk F N) (fun _ _ e => e)
theorem len_row {prog : Program} {w : World} {A : Around} {E : Value → Shared → Prop} {s : Shared} {h₀ : Heap} {L l : Addr} {news : List (Addr × Obj)} {its : Array Value} {nn : Nat} {Q : Value → Shared → Prop} (N : News h₀ L s.heap news) (hm : (l, listOf its nn) ∈ news) (hz : its.size ≤ 10000) (h : ∀ t k, Q (.int its.size t) { s with toks := k }) : wpAny (model prog w) A (call (.builtin "len") [.ref l]) Q E s :=
  len_list (N.isList hm) (by omega) (h _ _)
local macro_rules | `(tactic| k_mem) => `(tactic| first | exact List.Mem.head _ | with_reducible_and_instances assumption | (refine' List.Mem.tail _ ?_; k_mem))
local macro_rules | `(tactic| walk_at "compareOp IsNot str ref") => `(tactic| (k_here; refine isnot_str_ref ?_))
local macro_rules | `(tactic| walk_at "mine len") => `(tactic| first | omega | assumption | (simp only [Array.size_push, sizeLine_eq]; omega))
local macro_rules | `(tactic| walk_at "call builtin:len") => `(tactic| (k_here; (with_reducible show wpAny _ _ (call (Value.builtin "len") [Value.ref _]) _ _ _); k_dflt (refine' len_row (by k_asm) (by k_mem) (by omega) ?_); intro t' k'))
local macro_rules | `(tactic| walk_at "subscriptTail Name Name ref int") => `(tactic| (k_here; (with_reducible show wpAny _ _ (subscriptTail _ _ (Value.ref _) (Value.int _ _)) _ _ _); k_dflt (refine' item_row ?N ?m ?x ?k ?h1 ?_ ?hs; (case N => k_asm); (case m => k_mem); (case k => first | with_reducible exact (Int.natCast_succ _).symm | exact rfl); (case x => with_reducible assumption); (case h1 => omega); (case hs => with_unfolding_all rfl))))
local macro_rules | `(tactic| walk_at "mine lines") => `(tactic| assumption)
local macro_rules | `(tactic| walk_at "mine total") => `(tactic| (rw [show (Str.ofString "").length = 0 by decide +kernel]; omega))
set_option maxRecDepth 100000 in
set_option maxHeartbeats 1000000 in
theorem join_g (w : World) (Y : Str) (its : Array Value) (nn : Nat) (l S : Addr) (p0 : List Nat) (ps : List (List Nat)) (hR : Row S its (p0 ++ rest ps)) (hlen : (p0 ++ rest ps).length ≤ 1000) (hp0 : ∀ c ∈ p0, c ≠ 42) (hps0 : ∀ p ∈ ps, p ≠ [] ∧ p.length ≤ 80 ∧ ∀ c ∈ p, c ≠ 42) (hOut : (p0 ++ out ps).length ≤ 2000) (hY : Y = Str.ofString "(?s:" ++ ⟨(p0 ++ out ps).toArray⟩ ++ Str.ofString ")\\Z") :
    Gn w 1 127 [.ref l, .ref S] (fun news => (l, listOf its nn) ∈ news) (fun t => .str Y t) := by
  intro loose mean mg mb news dp un gd cn cs a ccd cl outer A₀ base h₀ L m s Q E B F X0 N hPre T hk hd hu hret
  have hsz0 : its.size = (p0 ++ rest ps).length := hR.1
  refine wpAny_call ?_
  k_dflt walk_at "mine enter"
  k_steps
  unfold Halt
  refine wpAny_noRaise ?_
  rename Fr _ _ _ _ => F2
  rename News _ _ _ _ => N2
  refine while_o (pre := [_, _]) (Str.ofString "i") (fun j v o => ∃ (q : Nat) (its : Array Value) (nn : Nat) (tk : Tok), j + q = p0.length ∧ v = .int (q : Nat) tk ∧ o = listOf its nn ∧ Strs its ((p0.take q).map sg1)) (n₀ := p0.length) F2 N2 rfl ⟨0, _, 0, _, rfl, rfl, rfl, Strs.nil⟩ ?_ PassesOwn.never
  rintro j9 v9 o9 h9 tk9 ⟨q9, its9, nn9, tk8, hj9, rfl, rfl, hS9⟩ F3 N3
  dsimp only [List.cons_append, List.nil_append] at N3
  have hsz9 : its9.size = q9 := by rw [hS9.size, List.length_map, List.length_take]; exact Nat.min_eq_left (by omega)
  have hll : (p0 ++ rest ps).length = p0.length + (rest ps).length := List.length_append
  by_cases hq9 : q9 < p0.length
  · have hd9 : p0[q9]? = some p0[q9] := List.getElem?_eq_getElem hq9
    have hd8 : (p0 ++ rest ps)[q9]? = some p0[q9] := by rw [List.getElem?_append_left hq9]; exact hd9
    obtain ⟨t9, hv9⟩ := hR.str hd8 (hp0 _ (List.getElem_mem hq9))
    k_steps
    all_goals unfold Halt
    all_goals refine WhileStep.intro (by k_asm) (by k_asm) (n' := j9 - 1) (by omega) ⟨_, _, map_o, rfl, q9 + 1, _, _, _, by omega, int_eq (by omega), rfl, hS9.one_more hd9 _⟩
  · have hqe9 : q9 = p0.length := by omega
    rw [hqe9, List.take_of_length_le (Nat.le_refl _)] at hS9
    have hstar : ps = [] ∨ (p0 ++ rest ps)[q9]? = some 42 := by
      cases ps with
      | nil => exact .inl rfl
      | cons p ps => exact .inr (by rw [hqe9, List.getElem?_append_right (Nat.le_refl _), Nat.sub_self]; rfl)
    have hdrop : (p0 ++ rest ps).drop q9 = rest ps := by rw [hqe9, List.drop_left]
    have hgo : ¬ q9 < (p0 ++ rest ps).length ∨ ∃ v, (its[q9]? : Option Value) = some v ∧ v = .ref S ∧ q9 < (p0 ++ rest ps).length := by
      rcases hstar with hps | hd8
      · have hXl2 : p0.length = (p0 ++ rest ps).length := by rw [hps]; exact (congrArg List.length (List.append_nil p0)).symm
        exact .inl (by omega)
      · exact .inr ⟨_, hR.star hd8, rfl, (List.getElem?_eq_some_iff.mp hd8).1⟩
    clear F2 N2 hstar
    refine cut_test F3 N3 (fun F3 N3 => ?_) (fun hZ tkZ F3 N3 => ?_)
    · rcases hgo with hgo | ⟨v9, hv9, rfl, hgo⟩
      all_goals k_steps
      all_goals exact ⟨rfl, _, _, rfl, by k_asm, by k_asm⟩
    clear hgo
    k_steps
    all_goals unfold Halt
    all_goals refine wpAny_noRaise ?_
    all_goals (
      rename Fr _ _ _ _ => F2
      rename News _ _ _ _ => N2
      refine while_1 (pre := [_, _]) (Str.ofString "i") (Str.ofString "fixed") (fun j v o => ∃ (ps2 : List (List Nat)) (i : Nat) (its : Array Value) (nn : Nat) (tk : Tok) (texts : List Str), j = ps2.length ∧ v = .int (i : Nat) tk ∧ (p0 ++ rest ps).drop i = rest ps2 ∧ (∀ p ∈ ps2, p ≠ [] ∧ p.length ≤ 80 ∧ ∀ c ∈ p, c ≠ 42) ∧ o = listOf its nn ∧ Strs its texts ∧ catS texts ++ out ps2 = p0 ++ out ps ∧ (∀ y ∈ texts, y.length ≤ 100) ∧ texts.length ≤ 2 * i ∧ i ≤ (p0 ++ rest ps).length) (n₀ := ps.length) F2 N2 rfl ⟨ps, q9, _, _, _, _, rfl, rfl, hdrop, hps0, rfl, hS9, by rw [catS_sg], ?_, ?_, by omega⟩ ?_ PassesOwn.never)
    all_goals first
      | (intro y hy; obtain ⟨c, _, rfl⟩ := List.mem_map.mp hy; show 1 ≤ 100; decide)
      | (rw [List.length_map]; omega)
      | skip
    all_goals (
      rintro jA vA oA uA hA tkA ⟨psA, iA, itsA, nnA, tkB, textsA, hjA, rfl, hdA, hpsA, rfl, hSA, hcA, hyA, htA, hiA⟩ FA NA
      clear F2 N2
      dsimp only [List.cons_append, List.nil_append] at NA
      cases psA with
      | nil =>
        have hiA2 : iA = (p0 ++ rest ps).length := by
          have := congrArg List.length hdA
          rw [List.length_drop] at this
          have h0 : (rest []).length = 0 := rfl
          omega
        have hJl : (Txt.join (Str.ofString "") textsA).length ≤ 2000 := by
          have h1 := congrArg List.length hcA
          rw [List.length_append] at h1
          have h2 : (Txt.join (Str.ofString "") textsA).length = (catS textsA).length := by rw [← join_cat, Array.length_toList]; rfl
          omega
        have hL1 : (Str.ofString "(?s:").length = 4 := by decide +kernel
        have hL2 : (Str.ofString ")\\Z").length = 3 := by decide +kernel
        have hL3 : Str.empty.length = 0 := rfl
        k_steps
        all_goals refine cb_retS hret ?_ (by k_asm) (by walk_at "mine drop")
        all_goals (
          rw [hY]
          apply str_ext
          rw [app_list, app_list, app_list, app_list, app_list, join_cat, ← hcA]
          show [] ++ _ ++ _ ++ _ = _ ++ (catS textsA ++ []) ++ _
          rw [List.nil_append, List.append_nil])
      | cons p psA =>
        have hA1 : (p0 ++ rest ps)[iA]? = some 42 := by
          have h0 : ((p0 ++ rest ps).drop iA)[0]? = some 42 := by rw [hdA]; rfl
          rw [List.getElem?_drop, Nat.add_zero] at h0; exact h0
        have hvA := hR.star hA1
        have hiA3 : iA < (p0 ++ rest ps).length := (List.getElem?_eq_some_iff.mp hA1).1
        obtain ⟨hpn, hp80, hp42⟩ := hpsA p (.head _)
        have hpl : 1 ≤ p.length := by
          cases p with
          | nil => exact absurd rfl hpn
          | cons d p => exact Nat.succ_pos _
        have hAt : ∀ q : Nat, (p0 ++ rest ps)[iA + 1 + q]? = (p ++ rest psA)[q]? := by
          intro q
          have h0 : ((p0 ++ rest ps).drop iA)[q + 1]? = (p ++ rest psA)[q]? := by rw [hdA]; rfl
          rw [List.getElem?_drop] at h0
          rw [← h0]; congr 1; omega
        have hA2 : (p0 ++ rest ps)[iA + 1]? = some p[0] := by
          rw [hAt 0, List.getElem?_append_left hpl]; exact List.getElem?_eq_getElem hpl
        obtain ⟨tD, hvD⟩ := hR.str hA2 (hp42 _ (List.getElem_mem hpl))
        have hiA4 : iA + 1 < (p0 ++ rest ps).length := (List.getElem?_eq_some_iff.mp hA2).1
        clear hA1 hA2
        k_steps
        all_goals unfold Halt
        refine wpAny_noRaise ?_
        (try clear FA NA)
        rename Fr _ _ _ _ => FB
        rename News _ _ _ _ => NB
        refine while_o (pre := []) (Str.ofString "i") (fun j v o => ∃ (q : Nat) (its : Array Value) (nn : Nat) (tk : Tok), j + q = p.length ∧ v = .int (iA + 1 + q : Nat) tk ∧ o = listOf its nn ∧ Strs its ((p.take q).map sg1)) (n₀ := p.length) FB NB rfl ⟨0, _, 0, _, rfl, int_eq (by omega), rfl, Strs.nil⟩ ?_ PassesOwn.never
        rintro jC vC oC hC tkC ⟨qC, itsC, nnC, tkD, hjC, rfl, rfl, hSC⟩ FC NC
        clear FB NB
        dsimp only [List.nil_append] at NC
        have hszC : itsC.size = qC := by rw [hSC.size, List.length_map, List.length_take]; exact Nat.min_eq_left (by omega)
        have hlA : iA + 1 + p.length + (rest psA).length = (p0 ++ rest ps).length := by
          have h1 := congrArg List.length hdA
          rw [List.length_drop] at h1
          have h2 : (rest (p :: psA)).length = (p.length + (rest psA).length) + 1 := by
            show (42 :: (p ++ rest psA)).length = _
            rw [List.length_cons, List.length_append]
          omega
        clear hvA hvD
        by_cases hqC : qC < p.length
        · have hdC : p[qC]? = some p[qC] := List.getElem?_eq_getElem hqC
          have hdD : (p0 ++ rest ps)[iA + 1 + qC]? = some p[qC] := by rw [hAt, List.getElem?_append_left hqC]; exact hdC
          obtain ⟨tC, hvC⟩ := hR.str hdD (hp42 _ (List.getElem_mem hqC))
          k_steps
          all_goals unfold Halt
          all_goals refine WhileStep.intro (by k_asm) (by k_asm) (n' := jC - 1) (by omega) ⟨_, _, map_o, rfl, qC + 1, _, _, _, by omega, int_eq (by omega), rfl, hSC.one_more hdC _⟩
        · have hqeC : qC = p.length := by omega
          rw [hqeC, List.take_of_length_le (Nat.le_refl _)] at hSC
          have hgoC : (psA = [] ∧ iA + 1 + qC = (p0 ++ rest ps).length) ∨ ∃ v, (its[iA + 1 + qC]? : Option Value) = some v ∧ v = .ref S ∧ iA + 1 + qC < (p0 ++ rest ps).length ∧ psA ≠ [] := by
            cases psA with
            | nil =>
              have h0 : (rest []).length = 0 := rfl
              exact .inl ⟨rfl, by omega⟩
            | cons p2 psB =>
              have h8 : (p0 ++ rest ps)[iA + 1 + qC]? = some 42 := by
                rw [hAt, hqeC, List.getElem?_append_right (Nat.le_refl _), Nat.sub_self]; rfl
              exact .inr ⟨_, hR.star h8, rfl, (List.getElem?_eq_some_iff.mp h8).1, List.cons_ne_nil _ _⟩
          have hFl : (Txt.join (Str.ofString "") (p.map sg1)).length ≤ 80 := by
            have h2 : (Txt.join (Str.ofString "") (p.map sg1)).length = (catS (p.map sg1)).length := by rw [← join_cat, Array.length_toList]; rfl
            rw [h2, catS_sg]; exact hp80
          have hB1 : ∀ y ∈ p.map sg1, y.length ≤ 100 := by
            intro y hy
            obtain ⟨c, _, rfl⟩ := List.mem_map.mp hy
            show 1 ≤ 100; decide
          have hszA : itsA.size = textsA.length := hSA.size
          have hml : (p.map sg1).length ≤ 80 := by rw [List.length_map]; exact hp80
          have hL4 : (Str.ofString "(?>.*?").length = 6 := by decide +kernel
          have hL5 : (Str.ofString ")").length = 1 := by decide +kernel
          have hL3 : Str.empty.length = 0 := rfl
          have hdB : (p0 ++ rest ps).drop (iA + 1 + qC) = rest psA := by
            have h0 : (42 :: (p ++ rest psA)).drop (qC + 1) = rest psA := by
              rw [List.drop_succ_cons, hqeC, List.drop_left]
            rw [show iA + 1 + qC = iA + (qC + 1) by omega, ← List.drop_drop, hdA]; exact h0
          have hjl : (Txt.join (Str.ofString "") (p.map sg1)).cps.toList = p := by rw [join_cat, catS_sg]
          have hpsB : ∀ z ∈ psA, z ≠ [] ∧ z.length ≤ 80 ∧ ∀ c ∈ z, c ≠ 42 := fun z hz => hpsA z (.tail _ hz)
          rcases hgoC with ⟨hnA, hgoC⟩ | ⟨vE, hvE, rfl, hgoC, hneC⟩
          · k_steps
            all_goals unfold Halt
            all_goals refine WhileStep.intro (by k_asm) (by walk_at "mine drop") (n' := psA.length) (by rw [hjA]; exact Nat.lt_succ_self _) ⟨_, _, _, map_fifi (by decide), rfl, psA, iA + 1 + qC, _, _, _, _, rfl, rfl, hdB, hpsB, rfl, (hSA.push _ _).push _ _, ?_, ?_, ?_, by omega⟩
            · rw [catS_push, catS_push, hjl, dots_list, ← hcA, hnA]
              show catS textsA ++ [46, 42] ++ p ++ [] = catS textsA ++ ([46, 42] ++ p)
              rw [List.append_nil, List.append_assoc]
            · intro y hy
              rcases List.mem_append.mp hy with hy | hy
              · rcases List.mem_append.mp hy with hy | hy
                · exact hyA y hy
                · rw [List.mem_singleton.mp hy, dots_length]; decide
              · rw [List.mem_singleton.mp hy]; omega
            · rw [List.length_append, List.length_append]
              show textsA.length + 1 + 1 ≤ _
              omega
          · k_steps
            all_goals unfold Halt
            all_goals refine WhileStep.intro (by k_asm) (by walk_at "mine drop") (n' := psA.length) (by rw [hjA]; exact Nat.lt_succ_self _) ⟨_, _, _, map_fifi (by decide), rfl, psA, iA + 1 + qC, _, _, _, _, rfl, rfl, hdB, hpsB, rfl, hSA.push _ _, ?_, ?_, ?_, by omega⟩
            · rw [catS_push, app_list, app_list, app_list, hjl, g_list, ← hcA]
              obtain ⟨p2, psB, rfl⟩ : ∃ p2 psB, psA = p2 :: psB := by
                cases psA with
                | nil => exact absurd rfl hneC
                | cons p2 psB => exact ⟨_, _, rfl⟩
              rw [show (Str.ofString ")").cps.toList = [41] by decide +kernel]
              show catS textsA ++ ([] ++ [40, 63, 62, 46, 42, 63] ++ p ++ [41]) ++ out (p2 :: psB) = catS textsA ++ (40 :: 63 :: 62 :: 46 :: 42 :: 63 :: (p ++ 41 :: out (p2 :: psB)))
              simp
            · intro y hy
              rcases List.mem_append.mp hy with hy | hy
              · exact hyA y hy
              · rw [List.mem_singleton.mp hy, Str.length_append, Str.length_append, Str.length_append]; omega
            · rw [List.length_append]
              show textsA.length + 1 ≤ _
              omega)
end

section
theorem fresh_N2 : True := by
  w_top off
  exact True.intro
theorem Row.step {S : Addr} {its : Array Value} {l : List Nat} {q c : Nat} {v : Value} (h : Row S its (l.take q)) (hc : l[q]? = some c) (hI : Item S v c) : Row S (its.push v) (l.take (q + 1)) := by
  rw [List.take_succ, hc]
  exact h.push hI
local macro_rules | `(tactic| walk_at "compareOp IsNot str ref") => `(tactic| (k_here; refine isnot_str_ref ?_))
def StarIs (_ : Addr) : Prop := True
abbrev starOf {S : Addr} (_ : StarIs S) : Addr := S
theorem escape_gi (w : World) (c : Nat) (x : Str) (t : Tok) (hx : x = ⟨#[c]⟩) (hc : okc c = true) : Gv w 1 113 [.str x t] (fun t => .str ⟨#[c]⟩ t) := by
  subst hx; exact escape_g w c t hc
local macro_rules | `(tactic| walk_at "call type:object") => `(tactic| (k_here; (with_reducible show wpAny _ _ (call (Value.type "object") _) _ _ _); k_dflt (refine' call_objectN (by k_asm) (by k_asm) ?_); intro l' h' k' F' N' l1; (have hStar : StarIs l' := trivial); (try k_lt l1); (try k_sweep)))
local macro_rules | `(tactic| walk_at "call ref") => `(tactic| (k_here; (with_reducible show wpAny _ _ (call (Value.ref 120) _) _ _ _); k_dflt (refine wpAny_call ?_; walk_at "mine enter")))
local macro_rules | `(tactic| walk_at "call ref") => `(tactic| (k_here; (with_reducible show wpAny _ _ (call (Value.ref 113) _) _ _ _); k_dflt (refine' gv_use (escape_gi _ _ _ _ ?hx ?ho) ?B ?F ?X ?N ?T ?hk ?hd ?hu ?_; (case ho => assumption); (case hx => exact item_at (by assumption)); (case B => k_asm); (case F => k_asm); (case X => k_asm); (case N => k_asm); (case T => k_asm); (case hk => first | exact rfl | assumption); (case hd => ktr_room); (case hu => ktr_units); intro t' h' k' F' N')))
local macro_rules | `(tactic| walk_at "mine len") => `(tactic| first | omega | assumption)
local macro_rules | `(tactic| walk_at "compareOp Eq str str") => `(tactic| (k_here; (with_reducible show wpAny _ _ (compareOp _ (Value.str (Txt.item _ _) _) (Value.str _ _)) _ _ _); k_dflt (first | (refine' eq_item (d := 42) ?hc ?hi ?hy ?_; (case hy => decide +kernel); (case hi => exact rfl); (case hc => with_reducible assumption)) | (refine' eq_item (d := 63) ?hc ?hi ?hy ?_; (case hy => decide +kernel); (case hi => exact rfl); (case hc => with_reducible assumption)) | (refine' eq_item (d := 91) ?hc ?hi ?hy ?_; (case hy => decide +kernel); (case hi => exact rfl); (case hc => with_reducible assumption)))))
local macro_rules | `(tactic| walk_at "truthy ref") => `(tactic| (k_here; (with_reducible show wpAny _ _ (truthy (Value.ref _)) _ _ _); k_dflt (refine' truthy_row (by k_asm) (by k_mem) (by omega) (by omega) ?_); intro k'))
local macro_rules | `(tactic| walk_at "subscriptTail Name UnaryOp ref int") => `(tactic| (k_here; (with_reducible show wpAny _ _ (subscriptTail _ _ (Value.ref _) (Value.int _ _)) _ _ _); k_dflt (refine' item_row_last (by k_asm) (by k_mem) (by assumption) (by rfl) (by omega) ?_ (by with_unfolding_all rfl))))
local macro_rules | `(tactic| walk_at "subscriptTail Name Name ref int") => `(tactic| (k_here; (with_reducible show wpAny _ _ (subscriptTail _ _ (Value.ref _) (Value.int _ _)) _ _ _); k_dflt (refine' item_row (by k_asm) (by k_mem) (by assumption) (by exact rfl) (by omega) ?_ (by with_unfolding_all rfl))))
local macro_rules | `(tactic| walk_at "mine lines") => `(tactic| assumption)
local macro_rules | `(tactic| walk_at "mine total") => `(tactic| (rw [show (Str.ofString "").length = 0 by decide +kernel]; omega))
set_option maxRecDepth 100000 in
set_option maxHeartbeats 1000000 in
theorem translate_g (w : World) (X Y : Str) (t : Tok) (hX1 : 1 ≤ X.length) (hX2 : X.length ≤ 1000) (hXo : ∀ (q c : Nat), X.cps.toList[q]? = some c → c = 42 ∨ okc c = true)
    (hXs : ∀ q : Nat, X.cps.toList[q]? = some 42 → 1 ≤ q ∧ ∀ c : Nat, X.cps.toList[q - 1]? = some c → c ≠ 42) (p0 : List Nat) (ps : List (List Nat)) (hX : X.cps.toList = p0 ++ rest ps) (hp0 : ∀ c ∈ p0, c ≠ 42) (hps0 : ∀ p ∈ ps, p ≠ [] ∧ p.length ≤ 80 ∧ ∀ c ∈ p, c ≠ 42) (hOut : (p0 ++ out ps).length ≤ 2000) (hY : Y = Str.ofString "(?s:" ++ ⟨(p0 ++ out ps).toArray⟩ ++ Str.ofString ")\\Z") : Gv w 3 101 [.str X t] (fun t => .str Y t) := by
  intro loose mean mg mb news dp un gd cn cs a ccd cl outer A₀ base h₀ L m s Q E B F X0 N T hk hd hu hret
  refine wpAny_call ?_
  k_dflt walk_at "mine enter"
  k_steps
  unfold Halt
  refine wpAny_noRaise ?_
  rename Fr _ _ _ _ => F2
  rename News _ _ _ _ => N2
  rename StarIs _ => hStar
  refine while_1 (pre := [_, _]) (Str.ofString "i") (Str.ofString "c") (fun j v o => ∃ (q : Nat) (its : Array Value) (nn : Nat) (tk : Tok), j + q = X.length ∧ v = .int (q : Nat) tk ∧ o = listOf its nn ∧ Row (starOf hStar) its (X.cps.toList.take q)) (n₀ := X.length) F2 N2 rfl ⟨0, _, 0, _, rfl, rfl, rfl, Row.nil _⟩ ?_ PassesOwn.never
  rintro j v o u3 h3 tk3 ⟨q, its, nn, tk4, hj, rfl, rfl, hR⟩ F3 N3
  dsimp only [List.cons_append, List.nil_append] at N3
  dsimp only [starOf] at hR
  have hsz : its.size = q := by rw [hR.1, List.length_take, Array.length_toList]; exact Nat.min_eq_left (by show q ≤ X.length; omega)
  by_cases hq : q < X.length
  · obtain ⟨d, hd1⟩ : ∃ d, X.cps.toList[q]? = some d := ⟨_, List.getElem?_eq_getElem (by rw [Array.length_toList]; exact hq)⟩
    rcases hXo q d hd1 with rfl | hok
    · obtain ⟨hq1, hq2⟩ := hXs q hd1
      obtain ⟨d2, hd2⟩ : ∃ d, X.cps.toList[q - 1]? = some d := ⟨_, List.getElem?_eq_getElem (by rw [Array.length_toList]; show q - 1 < X.length; omega)⟩
      obtain ⟨v, hv, hI⟩ := hR.2 (q - 1) d2 (by rw [List.getElem?_take_of_lt (by omega)]; exact hd2)
      have hd3 := hq2 d2 hd2
      obtain ⟨hx, _⟩ | ⟨_, t5, rfl⟩ := hI
      · exact absurd hx hd3
      rw [← hsz] at hv
      k_steps
      all_goals unfold Halt
      all_goals refine WhileStep.intro (by k_asm) (by k_asm) (n' := j - 1) (by omega) ⟨_, _, _, map_step, rfl, q + 1, _, _, _, by omega, int_eq (by omega), rfl, hR.step hd1 (.inl ⟨rfl, rfl⟩)⟩
    · have hno := okc_not hok
      k_steps
      all_goals unfold Halt
      all_goals refine WhileStep.intro (by k_asm) (by k_asm) (n' := j - 1) (by omega) ⟨_, _, _, map_step, rfl, q + 1, _, _, _, by omega, int_eq (by omega), rfl, hR.step hd1 (.inr ⟨hno.1, _, rfl⟩)⟩
  · have hqe : q = X.length := by omega
    rw [List.take_of_length_le (by rw [Array.length_toList]; show X.length ≤ q; omega)] at hR
    have hXl : (p0 ++ rest ps).length = X.length := by rw [← hX, Array.length_toList]; rfl
    rw [hX] at hR
    k_steps
    k_dflt (refine' gn_use (join_g w Y its nn _ _ p0 ps hR ?zL hp0 hps0 hOut hY) ?zB ?zF ?zX ?zN ?zP ?zT ?zk ?zd ?zu ?_; (case zL => omega); (case zB => k_asm); (case zF => k_asm); (case zX => k_asm); (case zN => k_asm); (case zP => k_mem); (case zT => k_asm); (case zk => first | exact rfl | assumption); (case zd => ktr_room); (case zu => ktr_units); intro t' h' k' F' N')
    k_steps
    all_goals exact hret _ _ _ (by k_asm) (by walk_at "mine drop")
end

section
theorem fresh_K1 : True := by
  w_top off
  exact True.intro
local macro_rules | `(tactic| walk_at "mine other 0") => `(tactic| skip)
local macro_rules | `(tactic| k_mem) => `(tactic| first | exact List.Mem.head _ | with_reducible_and_instances assumption | (refine' List.Mem.tail _ ?_; k_mem))
local macro_rules | `(tactic| walk_at "mine len") => `(tactic| first | omega | assumption | (simp only [Str.length_append]; omega))
local macro_rules | `(tactic| walk_at "subscriptTail Name Slice str ref") => `(tactic| (k_here; k_dflt (first
  | ((with_reducible show wpAny _ _ (subscriptTail _ (Expr.Slice (some _) (some _) none _) _ _) _ _ _); refine' sl_ss (s := ⟨_, _, _, _, _⟩) (by k_asm) (by k_asm) (by exact wrap_slice _ rfl) (by walk_at "mine len") ?_; intro h' t' k' F' N')
  | ((with_reducible show wpAny _ _ (subscriptTail _ (Expr.Slice none (some _) none _) _ _) _ _ _); refine' sl_ns (s := ⟨_, _, _, _, _⟩) (by k_asm) (by k_asm) (by first | exact slice_head rfl | exact slice_grp rfl | exact rfl) (by walk_at "mine len") ?_; intro h' t' k' F' N')
  | ((with_reducible show wpAny _ _ (subscriptTail _ (Expr.Slice (some _) none none _) _ _) _ _ _); refine' sl_sn (s := ⟨_, _, _, _, _⟩) (by k_asm) (by k_asm) (by first | exact slice_tail rfl | exact slice_paren rfl | exact rfl) (by walk_at "mine len") ?_; intro h' t' k' F' N'))))
local macro_rules | `(tactic| walk_at "compareOp NotEq str str") => `(tactic| (k_here; k_dflt (first | refine ne_same rfl ?_ | refine ne_by (row_head (by rw [lbS_length]; omega)) ?_)))
local macro_rules | `(tactic| walk_at "compareOp Eq str str") => `(tactic| (k_here; k_dflt (refine eq_by row_eq ?_)))
local macro_rules | `(tactic| walk_at "call builtin:str.rfind") => `(tactic| (k_here; k_dflt (first | (refine KXw.rfind (rfind_succ (by assumption)) ?_) | (refine KXw.rfind (rfind_zero (by assumption)) ?_)); intro t' k'))
local macro_rules | `(tactic| walk_at "binaryOp Add str str") => `(tactic| (k_here; (with_reducible show wpAny _ _ (binaryOp _ (Value.str _ _) (Value.str _ _)) _ _ _); refine add_any (by walk_at "mine len") ?_; intro t' k'))
set_option maxRecDepth 100000 in
set_option maxHeartbeats 1000000 in
theorem takes0_g (w : World) (c r k : Nat) (x : Str) (t u : Tok) (h2 : c < 256) (hx : x = wrapT (repS r (escS c))) (hr : r ≤ 13) (hk : k ≤ 40) : Gv w 1 221 [.str x t, .str (repS k (escS c)) u] (fun _ => .bool (decide (k = r))) := by
  subst hx
  have hW := wrap_length (repS r (escS c))
  have hI := row_length r c
  have hK := row_length k c
  have hL1 : (Str.ofString "(?s:").length = 4 := by decide +kernel
  have hL2 : (Str.ofString ")\\Z").length = 3 := by decide +kernel
  intro loose mean mg mb news dp un gd cn cs a ccd cl outer A₀ base h₀ L m s Q E B F X0 N T hk0 hd hu hret
  refine wpAny_call ?_
  k_dflt walk_at "mine enter"
  k_steps
  all_goals exact hret 0 _ _ (by k_asm) (by walk_at "mine drop")
end

section
theorem fresh_K2 : True := by
  w_top off
  exact True.intro
local macro_rules | `(tactic| k_mem) => `(tactic| first | exact List.Mem.head _ | with_reducible_and_instances assumption | (refine' List.Mem.tail _ ?_; k_mem))
local macro_rules | `(tactic| walk_at "mine len") => `(tactic| first | omega | assumption | (simp only [Str.length_append]; omega))
local macro_rules | `(tactic| walk_at "subscriptTail Name Slice str ref") => `(tactic| (k_here; (with_reducible show wpAny _ _ (subscriptTail _ (Expr.Slice none (some _) none _) (Value.str (repS _ _) _) _) _ _ _); refine Halt.mk ?_))
local macro_rules | `(tactic| walk_at "subscriptTail Name Slice str ref") => `(tactic| (k_here; k_dflt (first
  | ((with_reducible show wpAny _ _ (subscriptTail _ (Expr.Slice (some _) (some _) none _) _ _) _ _ _); refine' sl_ss (s := ⟨_, _, _, _, _⟩) (by k_asm) (by k_asm) (by exact wrap_slice _ rfl) (by walk_at "mine len") ?_; intro h' t' k' F' N')
  | ((with_reducible show wpAny _ _ (subscriptTail _ (Expr.Slice none (some _) none _) _ _) _ _ _); refine' sl_ns (s := ⟨_, _, _, _, _⟩) (by k_asm) (by k_asm) (by first | with_reducible exact slice_head rfl | with_reducible exact slice_grp rfl) (by walk_at "mine len") ?_; intro h' t' k' F' N')
  | ((with_reducible show wpAny _ _ (subscriptTail _ (Expr.Slice (some _) none none _) _ _) _ _ _); refine' sl_sn (s := ⟨_, _, _, _, _⟩) (by k_asm) (by k_asm) (by first | with_reducible exact slice_tail rfl | with_reducible exact slice_paren rfl | exact rfl) (by walk_at "mine len") ?_; intro h' t' k' F' N'))))
local macro_rules | `(tactic| walk_at "compareOp NotEq str str") => `(tactic| (k_here; k_dflt (first | with_reducible refine ne_same (wrap_eq _) ?_ | with_reducible refine ne_by (row_head_y (by rw [lbS_length]; omega) (by with_reducible assumption)) ?_ | with_reducible refine ne_by (row_head_n (by rw [lbS_length]; omega) (by with_reducible assumption)) ?_ | with_reducible refine ne_by bne_paren ?_)))
local macro_rules | `(tactic| walk_at "compareOp Eq str str") => `(tactic| (k_here; k_dflt (refine eq_by row_eq ?_)))
local macro_rules | `(tactic| walk_at "call builtin:str.rfind") => `(tactic| (k_here; k_dflt (first | (refine KXw.rfind (rfind_succ (by assumption)) ?_) | (refine KXw.rfind (rfind_zero (by assumption)) ?_)); intro t' k'))
local macro_rules | `(tactic| walk_at "binaryOp Add str str") => `(tactic| (k_here; (with_reducible show wpAny _ _ (binaryOp _ (Value.str _ _) (Value.str _ _)) _ _ _); refine add_any (by walk_at "mine len") ?_; intro t' k'))
local macro_rules | `(tactic| walk_at "call builtin:str.split") => `(tactic| (k_here; (with_reducible show wpAny _ _ (call (Value.builtin "str.split") [_, _]) _ _ _); refine KSpl.split1 (by k_asm) (by k_asm) (by decide) ?_ (by first | omega | (rw [sizeLine_eq]; omega)); intro D' l' h' k' e' a' F' N' l1; (try k_lt l1); clear a'; (obtain ⟨t2, l2, hl2, e2⟩ := KSpl.cons_of (e'.trans (split_head (by with_reducible assumption)))); subst hl2; clear e'; (have hl2 : l2.length ≤ 12 := by rw [← List.length_map (f := Prod.fst), e2, List.length_replicate]; omega)))
local macro_rules | `(tactic| walk_at "subscriptTail Name Constant ref int") => `(tactic| (k_here; (with_reducible show wpAny _ _ (subscriptTail _ _ (Value.ref _) (Value.int _ _)) _ _ _); k_dflt (refine' item_row ?N ?m ?x ?k ?h1 ?_ ?hs; (case N => k_asm); (case m => k_mem); (case k => exact (rfl : (0 : Int) = ((0 : Nat) : Int))); (case x => exact rfl); (case h1 => omega); (case hs => with_unfolding_all rfl))))
local macro_rules | `(tactic| walk_at "subscriptTail Name Slice ref ref") => `(tactic| (k_here; (with_reducible show wpAny _ _ (subscriptTail _ (PySem.Expr.Slice _ _ none _) (Value.ref _) (Value.ref _)) _ _ _); k_dflt (refine' slice_vals (s := ⟨_, _, _, _, _⟩) (by k_asm) (by k_asm) (by k_mem) (by (show (strValues _).length ≤ 1000); unfold strValues; rw [List.length_map]; omega) ?_; intro D' h' F' N' l1; (try k_lt l1))))

local macro_rules | `(tactic| walk_at "exec For Name Subscript cons nil") => `(tactic| (k_here; (rename Fr _ _ _ _ => lF'); (with_unfolding_all refine' For_invVF lF' (by exact rfl) (by exact rfl) ?_; k_whole)))
local macro_rules | `(tactic| walk_at "call builtin:str.find") => `(tactic| (k_here; k_dflt (first | refine find_by (find_y (by assumption) (by assumption) (by with_reducible assumption) (by with_reducible assumption)) ?_ | refine find_by (find_n (by assumption) (by assumption) (by with_reducible assumption) (by with_reducible assumption)) ?_); intro t' k'))
local macro_rules | `(tactic| walk_at "call builtin:str.endswith") => `(tactic| (k_here; k_dflt (refine ends_row (by with_reducible assumption) (by with_reducible assumption) ?_)))
set_option maxRecDepth 100000 in
set_option maxHeartbeats 1000000 in
theorem takes1_g (w : World) (c j room r k : Nat) (x : Str) (t u : Tok) (h2 : c < 256) (hx : x = wrapT (ins c (j + 1) room r)) (hj : j ≤ 11) (hroom : 1 ≤ room) (hroom2 : room ≤ 12) (hr : r ≤ 13) (hk : k ≤ 40) : Gv w 1 221 [.str x t, .str (repS k (escS c)) u] (fun _ => .bool (decide ((j + 1) * (room + 1) + r ≤ k))) := by
  subst hx
  have hW := wrap_length (ins c (j + 1) room r)
  have hI := ins_length c j room r
  have hH := head_length c j room
  have hjm : j * (3 * room + 8) ≤ 11 * 44 := Nat.mul_le_mul hj (by omega)
  have hK := row_length k c
  have hLb := lbS_length c room
  have hG := grp_length c room
  have hL1 : (Str.ofString "(?s:").length = 4 := by decide +kernel
  have hL2 : (Str.ofString ")\\Z").length = 3 := by decide +kernel
  intro loose mean mg mb news dp un gd cn cs a ccd cl outer A₀ base h₀ L m s Q E B F X0 N T hk0 hd hu hret
  refine wpAny_call ?_
  k_dflt walk_at "mine enter"
  have hmul : (j + 1) * (room + 1) = room + 1 + j * (room + 1) := by rw [Nat.add_mul, Nat.one_mul, Nat.add_comm]
  k_steps
  unfold Halt
  k_dflt (refine' sl_ns (s := ⟨_, _, _, _, _⟩) ?zF ?zN ?ze ?zz ?_; (case zF => k_asm); (case zN => k_asm); (case ze => exact rfl); (case zz => omega); intro h' t' k' F' N')
  by_cases hkr : room + 1 ≤ k
  · k_steps
    unfold Halt
    rename List.map _ _ = _ => he
    refine for_w (Str.ofString "place") (Str.ofString "found") (fun vs v => ∃ (q mm : Nat) (i : Int) (tk : Tok), i = 3 * (mm : Int) + 1 ∧ v = .int i tk ∧ JT c j room k q mm vs) rfl (by k_asm) (by k_asm) (by k_mem) rfl rfl rfl ⟨j, room, _, _, by rw [lbS_length]; omega, rfl, JT.start he hkr⟩ ?turn9 ?last9
    case turn9 =>
      rintro I v9 r9 v8 u9 it h9 tk9 hI ⟨q, mm, i, tk8, hi, rfl, hJ⟩ F1 N1
      (try k_lt hI)
      obtain ⟨q', t9, hq, rfl, hJ2, hJ3, hJ4⟩ := hJ.cons
      by_cases hgo : mm + room + 2 ≤ k
      · have hJ5 := hJ2 hgo
        k_steps
        all_goals (try unfold Halt)
        all_goals refine ⟨_, _, _, _, rfl, by k_asm, by k_asm, ?zoff, ⟨by k_mem, _, _, map_w (by decide), rfl, q', mm + room + 1, _, _, ?zhi, rfl, hJ5⟩⟩
        case zoff => k_all
        case zhi => rw [hG]; omega
      · rw [show decide ((j + 1) * (room + 1) + r ≤ k) = false from decide_eq_false (by omega)] at hret
        k_steps
        all_goals exact hret 0 _ _ (by k_asm) (by walk_at "mine drop")
    case last9 =>
      rintro v8 u9 h9 tk9 ⟨q, mm, i, tk8, hi, rfl, hJ⟩ F1 N1
      obtain ⟨hJ1, hJ2⟩ := hJ.nil
      rw [show decide ((j + 1) * (room + 1) + r ≤ k) = decide (mm + 1 + r ≤ k) from decide_eq_decide.mpr ⟨fun _ => by omega, fun _ => by omega⟩] at hret
      k_steps
      all_goals exact hret 0 _ _ (by k_asm) (by walk_at "mine drop")
  · rw [show decide ((j + 1) * (room + 1) + r ≤ k) = false from decide_eq_false (by omega)] at hret
    k_steps
    all_goals exact hret 0 _ _ (by k_asm) (by walk_at "mine drop")
end

section
set_option maxRecDepth 100000
theorem body_m (w : World) (c n room more : Nat) (z : Str) (t k u : Tok) (h1 : 127 ≤ c) (h2 : c < 256) (hn : 1 ≤ n) (hn2 : n ≤ 12) (hr : 1 ≤ room) (hr2 : room ≤ 12) (hm : 1 ≤ more) (hm2 : more ≤ 3) (hz : z.length ≤ 4) :
    Gv w 2 81 [.str (sgn n c) t, .int (3 * (room : Int) + (more : Int)) k, .str z u] (fun t => .str (gl c (brk n room more) room (n - room * brk n room more) z) t) := by
  have h := body_c w c n room more (sgn n c) z t k u (sgn_list n c) h1 h2 hn hn2 hr hr2 hm hm2 hz
  rw [show ((3 * room + more : Nat) : Int) = 3 * (room : Int) + (more : Int) by omega] at h
  exact h
theorem body_3 (w : World) (c n room : Nat) (z : Str) (t k u : Tok) (h1 : 127 ≤ c) (h2 : c < 256) (hn : 1 ≤ n) (hn2 : n ≤ 12) (hr : 1 ≤ room) (hr2 : room ≤ 12) (hz : z.length ≤ 4) :
    Gv w 2 81 [.str (sgn n c) t, .int (3 * (room : Int) + 3) k, .str z u] (fun t => .str (gl c (brk n room 3) room (n - room * brk n room 3) z) t) :=
  body_m w c n room 3 z t k u h1 h2 hn hn2 hr hr2 (by decide) (by decide) hz
theorem norm_m (w : World) (c b room r : Nat) (t : Tok) (h2 : c < 256) (hb : b ≤ 12) (hroom : 1 ≤ room) (hroom2 : room ≤ 12) (hr : 1 ≤ r) (hr2 : r ≤ 13) :
    Gv w 2 214 [.str (gl c b room r (Str.ofString "/../")) t] (fun t => .str (repS r (escS c)) t) := by
  have hz : (Str.ofString "/../").length = 4 := by decide +kernel
  have hs := gl_small (c := c) (z := Str.ofString "/../") hb hroom2 hr2 (by omega)
  have hl := gl_length c b room r (Str.ofString "/../")
  have hlb := lbS_length c room
  have hrr := row_length r c
  exact normpath_g w _ (lbS c room) (repS r (escS c)) b t (by omega) (by omega) (slice_first (gl_head hroom hr)) (gl_split h2) (by omega) (by omega) (by omega) (by omega)
theorem tr_m (w : World) (c b room r : Nat) (t : Tok) (h2 : c < 256) (hb : b ≤ 12) (hroom : 1 ≤ room) (hroom2 : room ≤ 12) (hr : 1 ≤ r) (hr2 : r ≤ 13) :
    Gv w 3 101 [.str (gl c b room r (Str.ofString "*")) t] (fun t => .str (wrapT (ins c b room r)) t) := by
  have hz : (Str.ofString "*").length = 1 := by decide +kernel
  have hs := gl_small (c := c) (z := Str.ofString "*") hb hroom2 hr2 (by omega)
  have hl := gl_length c b room r (Str.ofString "*")
  have hall := gp_all (c := c) (b := b) (room := room) (r := r) h2 hr hr2 hroom2
  rw [gp_eq] at hall
  have h0 := hall _ (.head _)
  have hps := fun p hp => hall p (.tail _ hp)
  have hst := gl_star c b room r
  have hlen : (gs c b room r).length = b := by
    have h := congrArg List.length (gp_eq c b room r)
    unfold gp at h
    rw [List.length_append, List.length_replicate, List.length_cons] at h
    simp only [List.length_cons, List.length_nil] at h
    omega
  have hout := out_length (gs c b room r) (fun p hp => (hps p hp).2.1)
  refine translate_g w _ _ t (by omega) (by omega) ?_ ?_ (g0 c b room r) (gs c b room r) hst (ok42 h0.2.2) (fun p hp => ⟨(hps p hp).1, (hps p hp).2.1, ok42 (hps p hp).2.2⟩) ?_ rfl
  · rw [hst]; exact star_ok _ _ h0.2.2 (fun p hp => (hps p hp).2.2)
  · rw [hst]; exact star_sep _ _ h0.1 (ok42 h0.2.2) (fun p hp => ⟨(hps p hp).1, ok42 (hps p hp).2.2⟩)
  · rw [List.length_append]
    have := h0.2.1
    rw [hlen] at hout
    omega
theorem takes_m (w : World) (c b room r k : Nat) (t u : Tok) (h2 : c < 256) (hb : b ≤ 12) (hroom : 1 ≤ room) (hroom2 : room ≤ 12) (hr2 : r ≤ 13) (hk : k ≤ 40) :
    Gv w 1 221 [.str (wrapT (ins c b room r)) t, .str (repS k (escS c)) u] (fun _ => .bool (tkB b room r k)) := by
  cases b with
  | zero =>
    rw [show tkB 0 room r k = decide (k = r) from if_pos rfl]
    exact takes0_g w c r k _ t u h2 (by rw [ins_zero]) hr2 hk
  | succ j =>
    rw [show tkB (j + 1) room r k = decide ((j + 1) * (room + 1) + r ≤ k) from if_neg (Nat.succ_ne_zero j)]
    exact takes1_g w c j room r k _ t u h2 rfl (by omega) hroom hroom2 hr2 hk
end

section
theorem fresh_D1 : True := by
  w_top off
  exact True.intro
theorem body_mb (w : World) (c n room more b r : Nat) (z : Str) (t k u : Tok) (h1 : 127 ≤ c) (h2 : c < 256) (hn : 1 ≤ n) (hn2 : n ≤ 12) (hr : 1 ≤ room) (hr2 : room ≤ 12) (hm : 1 ≤ more) (hm2 : more ≤ 2) (hz : z.length ≤ 4) (hb : brk n room more = b) (hrr : n - room * b = r) :
    Gv w 2 81 [.str (sgn n c) t, .int (3 * (room : Int) + (more : Int)) k, .str z u] (fun t => .str (gl c b room r z) t) := by
  subst hb hrr
  exact body_m w c n room more z t k u h1 h2 hn hn2 hr hr2 hm (by omega) hz
theorem body_3b (w : World) (c n room b r : Nat) (z : Str) (t k u : Tok) (h1 : 127 ≤ c) (h2 : c < 256) (hn : 1 ≤ n) (hn2 : n ≤ 12) (hr : 1 ≤ room) (hr2 : room ≤ 12) (hz : z.length ≤ 4) (hb : brk n room 3 = b) (hrr : n - room * b = r) :
    Gv w 2 81 [.str (sgn n c) t, .int (3 * (room : Int) + 3) k, .str z u] (fun t => .str (gl c b room r z) t) := by
  subst hb hrr
  exact body_3 w c n room z t k u h1 h2 hn hn2 hr hr2 hz
local macro_rules | `(tactic| k_mem) => `(tactic| first | exact List.Mem.head _ | with_reducible_and_instances assumption | (refine' List.Mem.tail _ ?_; k_mem))
local macro_rules | `(tactic| walk_at "mine use") => `(tactic| ((case B => k_asm); (case F => k_asm); (case X => k_asm); (case N => k_asm); (case T => k_asm); (case hk => first | exact rfl | assumption); (case hd => ktr_room); (case hu => ktr_units); intro t' h' k' F' N'))
local macro_rules | `(tactic| walk_at "call ref") => `(tactic| (k_here; (with_reducible show wpAny _ _ (call (Value.ref 81) _) _ _ _); k_dflt (first
  | refine' gv_use (body_3b _ _ _ _ _ _ _ _ _ _ (by assumption) (by assumption) (by assumption) (by assumption) (by assumption) (by assumption) (by decide +kernel) (by with_reducible assumption) (by with_reducible assumption)) ?B ?F ?X ?N ?T ?hk ?hd ?hu ?_
  | refine' gv_use (body_mb _ _ _ _ _ _ _ _ _ _ _ (by assumption) (by assumption) (by assumption) (by assumption) (by assumption) (by assumption) (by assumption) (by assumption) (by decide +kernel) (by with_reducible assumption) (by with_reducible assumption)) ?B ?F ?X ?N ?T ?hk ?hd ?hu ?_); (case B => k_asm); (case F => k_asm); (case X => k_asm); (case N => k_asm); (case T => k_asm); (case hk => first | exact rfl | assumption); (case hd => ktr_room); (case hu => ktr_units); intro t' h' k' F' N'))
local macro_rules | `(tactic| walk_at "call ref") => `(tactic| (k_here; (with_reducible show wpAny _ _ (call (Value.ref 214) _) _ _ _); k_dflt (refine' gv_use (norm_m _ _ _ _ _ _ (by assumption) (by omega) (by assumption) (by assumption) (by omega) (by omega)) (by k_asm) (by k_asm) (by k_asm) (by k_asm) (by k_asm) (by first | exact rfl | assumption) (by ktr_room) (by ktr_units) ?_; intro t' h' k' F' N')))
local macro_rules | `(tactic| walk_at "call ref") => `(tactic| (k_here; (with_reducible show wpAny _ _ (call (Value.ref 89) _) _ _ _); k_dflt (refine' gv_use (decode_g _ _ _ _ (by assumption) (by assumption) (by omega) (by omega)) (by k_asm) (by k_asm) (by k_asm) (by k_asm) (by k_asm) (by first | exact rfl | assumption) (by ktr_room) (by ktr_units) ?_; intro t' h' k' F' N')))
local macro_rules | `(tactic| walk_at "call ref") => `(tactic| (k_here; (with_reducible show wpAny _ _ (call (Value.ref 101) _) _ _ _); k_dflt (refine' gv_use (tr_m _ _ _ _ _ _ (by assumption) (by omega) (by assumption) (by assumption) (by omega) (by omega)) (by k_asm) (by k_asm) (by k_asm) (by k_asm) (by k_asm) (by first | exact rfl | assumption) (by ktr_room) (by ktr_units) ?_; intro t' h' k' F' N')))
local macro_rules | `(tactic| walk_at "binaryOp Mult str int") => `(tactic| (k_here; k_dflt (with_reducible refine mul_sign (by first | with_reducible exact rfl | with_reducible exact (Int.natCast_add _ _).symm) (by omega) ?_); intro t' k'))
local macro_rules | `(tactic| walk_at "call builtin:len") => `(tactic| (k_here; k_dflt (with_reducible refine len_sgn (by omega) ?_); intro t' k'))
local macro_rules | `(tactic| walk_at "binaryOp FloorDiv int int") => `(tactic| (k_here; k_dflt (with_reducible refine div_by (by omega) (by with_reducible assumption) (by omega) ?_); intro t' k'))
local macro_rules | `(tactic| walk_at "compareOp NotEq str str") => `(tactic| (k_here; k_dflt (with_reducible refine ne_sgn (by first | with_reducible exact rfl | omega) ?_)))
theorem ne_two {a : Nat} {o : Obj} {news : List (Addr × Obj)} (h : ∀ p ∈ news, p.1 < a) : ∀ p ∈ ((a + 1 : Nat), o) :: news, p.1 ≠ (a + 1 + 1 : Nat) := by
  intro p hp
  rcases List.mem_cons.mp hp with rfl | hp
  · show (a + 1 : Nat) ≠ a + 1 + 1; omega
  · have := h p hp
    show (p.1 : Nat) ≠ a + 1 + 1
    have h2 : (p.1 : Nat) < a := this
    omega
theorem ne_int_no {prog : Program} {w : World} {A : Around} {E : Value → Shared → Prop} {s : Shared} {a b : Int} {t u : Tok} {Q : Value → Shared → Prop} (e : a = b) (h : Q (.bool false) s) : wpAny (model prog w) A (compareOp .NotEq (.int a t) (.int b u)) Q E s := by
  refine PyProof.Rows.ne_int ?_
  subst e; rw [bne_self_eq_false]; exact h
local macro_rules | `(tactic| k_all) => `(tactic| exact ne_two (by assumption))
local macro_rules | `(tactic| walk_at "compareOp NotEq int int") => `(tactic| (k_here; k_dflt (refine ne_int_no (by with_reducible assumption) ?_)))
theorem takes_t (w : World) (c b room r k : Nat) (v : Bool) (t u : Tok) (h2 : c < 256) (hb : b ≤ 12) (hroom : 1 ≤ room) (hroom2 : room ≤ 12) (hr2 : r ≤ 13) (hk : k ≤ 40) (hv : tkB b room r k = v) :
    Gv w 1 221 [.str (wrapT (ins c b room r)) t, .str (repS k (escS c)) u] (fun _ => .bool v) := by
  subst hv; exact takes_m w c b room r k t u h2 hb hroom hroom2 hr2 hk
local macro_rules | `(tactic| walk_at "call ref") => `(tactic| (k_here; (with_reducible show wpAny _ _ (call (Value.ref 221) _) _ _ _); k_dflt (refine' gv_use (takes_t _ _ _ _ _ _ _ _ _ (by assumption) (by omega) (by assumption) (by assumption) (by omega) (by omega) (by with_reducible assumption)) (by k_asm) (by k_asm) (by k_asm) (by k_asm) (by k_asm) (by first | exact rfl | assumption) (by ktr_room) (by ktr_units) ?_; intro t' h' k' F' N')))
local macro_rules | `(tactic| walk_at "call ref") => `(tactic| (k_here; (with_reducible show wpAny _ _ (call (Value.ref 68) _) _ _ _); k_dflt (refine' gv_use (quote_g _ _ _ (by assumption) (by assumption)) (by k_asm) (by k_asm) (by k_asm) (by k_asm) (by k_asm) (by first | exact rfl | assumption) (by ktr_room) (by ktr_units) ?_; intro t' h' k' F' N')))
local macro_rules | `(tactic| walk_at "binaryOp Mult str int") => `(tactic| (k_here; k_dflt (with_reducible refine mul_esc (by omega) (by omega) ?_); intro t' k'))
local macro_rules | `(tactic| walk_at "CompEnd") => `(tactic| (k_here; refine Halt.mk ?_))
def CutQ (P : Prop) : Prop := P
theorem cut_if {M : Model} {A : Around} {E : Value → Shared → Prop} {s : Shared} {st : Stmt} {env : Env} {Q : Flow → Shared → Prop} {h₀ : Heap} {L : Addr} {m : Str → Option Value} {news : List (Addr × Obj)} (F : Fr h₀ L s.heap m) (N : News h₀ L s.heap news)
    (h1 : Fr h₀ L s.heap m → News h₀ L s.heap news → wpAny M A (exec st env) (fun f s' => CutQ (f = .next ∧ ∃ h tk, s' = { s with heap := h, toks := tk } ∧ Fr h₀ L h m ∧ News h₀ L h news)) E s)
    (h2 : ∀ h tk, Fr h₀ L h m → News h₀ L h news → Q .next { s with heap := h, toks := tk }) : wpAny M A (exec st env) Q E s :=
  wpAny_mono (h1 F N) (fun f s' ⟨e, h, tk, e2, F, N⟩ => by subst e e2; exact h2 h tk F N) (fun _ _ e => e)
def CutR (P : Prop) : Prop := P
theorem cut_if_any {M : Model} {A : Around} {E : Value → Shared → Prop} {s : Shared} {st : Stmt} {env : Env} {Q : Flow → Shared → Prop} (h : wpAny M A (exec st env) (fun f s' => CutR (Q f s')) E s) : wpAny M A (exec st env) Q E s := h
theorem CutR.mk {P : Prop} (h : P) : CutR P := h
local macro_rules | `(tactic| walk_at "CutR") => `(tactic| (refine CutR.mk ?_))
local macro_rules | `(tactic| walk_at "exec If") => `(tactic| (k_here; (fail_if_success (with_reducible show wpAny _ _ _ (fun _ _ => CutQ _) _ _)); (fail_if_success (with_reducible show wpAny _ _ _ (fun _ _ => CutR _) _ _)); refine Halt.mk ?_))
theorem ne_lists {prog : Program} {w : World} {A : Around} {E : Value → Shared → Prop} {s : Shared} {a b : Addr} {vs us : List Value} {ns ms : List Int} {Q : Value → Shared → Prop} (hl : s.heap.IsList a vs.toArray) (hi : IntsAre vs ns) (hl' : s.heap.IsList b us.toArray) (hi' : IntsAre us ms) (hu : A.units + 64 < cLine) (e : ns = ms)
    (h : Q (.bool false) s) : wpAny (model prog w) A (compareOp .NotEq (.ref a) (.ref b)) Q E s := by
  refine ne_intsK hl hi hl' hi' hu ?_
  rw [decide_eq_true e]; exact h
local macro_rules | `(tactic| walk_at "compareOp NotEq ref ref") => `(tactic| (k_here; k_dflt (refine' ne_lists (by exact News.isList (by k_asm) (by k_mem)) (by with_reducible assumption) (by exact News.isList (by k_asm) (by k_mem)) (by first | exact .cons _ _ (.cons _ _ .nil) | exact .cons _ _ .nil) (by ktr_units) (by with_reducible exact rfl) ?_)))
local macro_rules | `(tactic| walk_at "CompSrcT") => `(tactic| (k_here; refine Halt.mk ?_))
set_option maxRecDepth 100000 in
set_option maxHeartbeats 1000000 in
theorem div_g (w : World) (c n room more : Nat) (t t2 t3 t4 : Tok) (h1 : 127 ≤ c) (h2 : c < 256) (hn : 1 ≤ n) (hn2 : n ≤ 12) (hr : 1 ≤ room) (hr2 : room ≤ 12) (hm : 1 ≤ more) (hm2 : more ≤ 2) : Gv w 12 226 [.str ⟨#[c]⟩ t, .int (n : Nat) t2, .int (room : Nat) t3, .int (more : Nat) t4] (fun t => .int (n.gcd room : Nat) t) := by
  intro loose mean mg mb news dp un gd cn cs a ccd cl outer A₀ base h₀ L m s Q E B F X0 N T hk0 hd hu hret
  refine wpAny_call ?_
  k_dflt walk_at "mine enter"
  k_steps
  unfold Halt
  refine wpAny_noRaise ?_
  rename Fr _ _ _ _ => F2
  rename News _ _ _ _ => N2
  rename Obj.data _ = Data.cell (some (Value.str ⟨#[c]⟩ t)) => hsg
  change _ = Data.cell (some (Value.str ⟨#[c]⟩ t)) at hsg
  rename Obj.data _ = Data.cell none => htx
  change _ = Data.cell none at htx
  refine while_d (pre := []) (Str.ofString "count") (Str.ofString "room") (Str.ofString "told") (Str.ofString "rest") (Str.ofString "breaks") (Str.ofString "wide") (Str.ofString "taken") (fun j v v' o => ∃ (cnt rm : Nat) (tk tk' : Tok) (x : Option Value), j = rm ∧ v = .int (cnt : Nat) tk ∧ v' = .int (rm : Nat) tk' ∧ o.data = .cell x ∧ 1 ≤ cnt ∧ cnt ≤ 12 ∧ 1 ≤ rm ∧ rm ≤ 12 ∧ Nat.gcd cnt rm = Nat.gcd n room) (n₀ := room) F2 N2 rfl rfl ⟨n, room, _, _, _, rfl, rfl, rfl, htx, hn, hn2, hr, hr2, rfl⟩ ?zturn PassesOwn.never
  rintro rm v v' o u3 h3 tk3 ⟨cnt, rm0, tk1, tk2, xC, rfl, rfl, rfl, hxC, hc1, hc2, hr1, hr3, hg⟩ F3 N3
  clear F2 N2 htx hn hn2 hr hr2
  dsimp only [List.nil_append] at N3
  have hcut := cut_facts (more := more) hr1 hc1 hm hm2
  have hcut3 := cut_three (more := more) hr1 hc1 hm hm2
  generalize hb : brk cnt rm more = b at hcut hcut3
  generalize hrr : cnt - rm * b = r at hcut hcut3
  generalize hb3 : brk cnt rm 3 = b3 at hcut3
  generalize hr33 : cnt - rm * b3 = r3 at hcut3
  obtain ⟨hk1, hk2, hk3, hk4⟩ := hcut
  have hb3l : b3 ≤ 12 := by rw [← hb3]; exact Nat.le_trans brk_le hc2
  have hdiv : (cnt : Int) - (r : Int) = (b : Int) * (rm : Int) := by
    have : ((cnt : Nat) : Int) = ((rm * b + r : Nat) : Int) := by rw [← hk1]
    rw [Int.natCast_add, Int.natCast_mul, Int.mul_comm] at this; omega
  have hmulI : (cnt : Int) = (b : Int) * (rm : Int) + (r : Int) := by omega
  have hr3l : 1 ≤ r3 ∧ r3 ≤ 13 := by split at hcut3 <;> omega
  have hys : (rangeKs 0 (cnt + b + 2)).foldl (taken b rm r) [] = if 0 < b then [(cnt : Int) + (b : Int), (cnt : Int) + (b : Int) + 1] else [(cnt : Int)] := by
    by_cases hb0 : 0 < b
    · rw [if_pos hb0]; exact taken_pos hb0 hk1
    · have hb00 : b = 0 := by omega
      rw [if_neg hb0]
      have hrc : r = cnt := by rw [hb00, Nat.mul_zero] at hk1; omega
      rw [hb00]; exact taken_zero hrc
  k_steps
  unfold Halt
  rename Fr _ _ _ _ => FA
  rename News _ _ _ _ => NA
  refine cut_if FA NA (fun FA NA => ?_) (fun hA tkA FA NA => ?_)
  · k_steps
    all_goals exact ⟨rfl, _, _, rfl, by k_asm, by k_asm⟩
  k_steps
  unfold Halt
  (try clear FA NA)
  rename Fr _ _ _ _ => FB
  rename News _ _ _ _ => NB
  refine cut_if FB NB (fun FB NB => ?_) (fun hB tkB9 FB NB => ?_)
  · by_cases hcase : r = 1 ∧ 0 < b
    · rw [if_pos hcase] at hcut3
      obtain ⟨hcase1, hcase2⟩ := hcase
      k_steps
      all_goals exact ⟨rfl, _, _, rfl, by k_asm, by k_asm⟩
    · rw [if_neg hcase] at hcut3
      by_cases hr1b : r = 1
      · have hb0 : b = 0 := by omega
        clear hcase
        k_steps
        all_goals exact ⟨rfl, _, _, rfl, by k_asm, by k_asm⟩
      · clear hcase
        k_steps
        all_goals exact ⟨rfl, _, _, rfl, by k_asm, by k_asm⟩
  k_steps
  unfold Halt
  refine LCt.CompSrcT.range (n := cnt + b + 2) (by rfl) (by k_asm) (by k_asm) (by assumption) (small_one (by omega) (by omega) (by omega) (by omega)) ((rangeSize_nat _ _).trans (by omega)) (by rw [sizeLine_eq]; omega) ?_
  intro g8
  refine kci_range (taken b rm r) (fun k8 t8 I8 oI8 C8 oC8 D8 m8 ys8 l8 h8 tk8 E8 hlo8 hhi8 hI8 hC8 hx8 F8 N8 off8 ne8 hM8 => ?_) ?_ (taken_grows _ _ _)
  · by_cases htk : tkB b rm r k8.toNat = true
    · have htk2 : taken b rm r l8 k8 = l8 ++ [k8] := if_pos htk
      k_steps
      all_goals (try unfold Halt)
      all_goals exact ⟨_, _, _, rfl, by k_asm, by k_asm, by assumption, True.intro, rfl, k8, _, rfl, htk2⟩
    · have htk2 : taken b rm r l8 k8 = l8 := if_neg htk
      have htk3 : tkB b rm r k8.toNat = false := Bool.eq_false_iff.mpr htk
      clear htk
      k_steps
      all_goals (try unfold Halt)
      all_goals exact ⟨_, _, _, rfl, by k_asm, by k_asm, by assumption, True.intro, rfl, htk2⟩
  unfold KPfDone
  intro ys8 hys8 hyl8
  k_steps
  unfold Halt
  (try clear FB NB)
  rename Fr _ _ _ _ => FC
  rename News _ _ _ _ => NC
  refine cut_if FC NC (fun FC NC => ?_) (fun hC tkC9 FC NC => ?_)
  · rw [hys] at hys8
    by_cases hb0 : 0 < b
    · rw [if_pos hb0] at hys8
      k_steps
      all_goals exact ⟨rfl, _, _, rfl, by k_asm, by walk_at "mine drop"⟩
    · rw [if_neg hb0] at hys8
      k_steps
      all_goals exact ⟨rfl, _, _, rfl, by k_asm, by walk_at "mine drop"⟩
  k_steps
  unfold Halt
  by_cases hrl : r = rm
  · refine cut_if_any ?_
    k_steps
    dsimp only
    dsimp only [WhileStep2]
    k_steps
    all_goals exact cb_retI hret (by rw [← hg, cut_gcd hk1, hrl, Nat.gcd_self]) (by k_asm) (by walk_at "mine drop")
  · refine cut_if_any ?_
    k_steps
    all_goals refine WhileStep2.intro (by k_asm) (by walk_at "mine drop") (n' := r) (by omega) ⟨_, _, _, _, map_d rfl rfl (fun z a1 a2 a3 a4 a5 a6 a7 => by simp only [a1, a2, a3, a4, a5, a6, a7, if_false]), rfl, rm, r, _, _, _, rfl, rfl, rfl, by assumption, hr1, hr3, hk2, by omega, by rw [← hg, cut_gcd hk1]⟩
end

end

section
theorem fresh_E1 : True := by
  w_top off
  exact True.intro
set_option maxRecDepth 100000
theorem div_i (w : World) (c n room more : Nat) (x : Str) (i j k : Int) (t t2 t3 t4 : Tok) (hx : x = ⟨#[c]⟩) (hi : i = (n : Int)) (hj : j = (room : Int)) (hk : k = (more : Int)) (h1 : 127 ≤ c) (h2 : c < 256) (hn : 1 ≤ n) (hn2 : n ≤ 12) (hr : 1 ≤ room) (hr2 : room ≤ 12) (hm : 1 ≤ more) (hm2 : more ≤ 2) :
    Gv w 12 226 [.str x t, .int i t2, .int j t3, .int k t4] (fun t => .int (n.gcd room : Nat) t) := by
  subst hx hi hj hk; exact div_g w c n room more t t2 t3 t4 h1 h2 hn hn2 hr hr2 hm hm2
theorem sign_lo (S : Int) : 127 ≤ (127 + S.fmod 129).toNat := by have := fmod_lo S (n := 129) (by decide); omega
theorem sign_hi (S : Int) : (127 + S.fmod 129).toNat < 256 := by have := fmod_hi S (n := 129) (by decide); omega
theorem more_eq (S : Int) : 1 + S.fmod 2 = (((1 + S.fmod 2).toNat : Nat) : Int) := by have := fmod_lo S (n := 2) (by decide); omega
theorem more_lo (S : Int) : 1 ≤ (1 + S.fmod 2).toNat := by have := fmod_lo S (n := 2) (by decide); omega
theorem more_hi (S : Int) : (1 + S.fmod 2).toNat ≤ 2 := by have := fmod_hi S (n := 2) (by decide); omega
local macro_rules | `(tactic| walk_at "call ref") => `(tactic| (k_here; (with_reducible show wpAny _ _ (call (Value.ref 226) _) _ _ _); refine Halt.mk ?_))
local macro_rules | `(tactic| walk_at "subscriptTail") => `(tactic| (k_here; (with_reducible show wpAny _ _ (subscriptTail _ (Expr.Slice (some _) none none _) (Value.ref _) (Value.ref _)) _ _ _); k_dflt (refine' slice_53 (s := ⟨_, _, _, _, _⟩) (by k_asm) (by k_asm) (by k_mem) (by exact rfl) ?_); intro D' zs' h' hZ' F' N' l1; (try k_lt l1); (try k_sweep)))
local macro_rules | `(tactic| walk_at "subscriptTail List Slice ref ref") => `(tactic| (k_here; (with_reducible show wpAny _ _ (subscriptTail _ (Expr.Slice (some _) none none _) (Value.ref _) (Value.ref _)) _ _ _); k_dflt (refine' slice_53 (s := ⟨_, _, _, _, _⟩) (by k_asm) (by k_asm) (by k_mem) (by exact rfl) ?_); intro D' zs' h' hZ' F' N' l1; (try k_lt l1); (try k_sweep)))
local macro_rules | `(tactic| walk_at "binaryOp Add ref ref") => `(tactic| (k_here; (with_reducible show wpAny _ _ (binaryOp _ (Value.ref _) (Value.ref _)) _ _ _); k_dflt (refine' add_two (by k_asm) (by k_asm) (by k_mem) (by k_mem) (by with_reducible assumption) (by with_reducible assumption) ?_); intro D' h' t1' t2' F' N' l1; (try k_lt l1); (try k_sweep)))
local macro_rules | `(tactic| walk_at "CompSrcT") => `(tactic| (k_here; refine Halt.mk ?_))
local macro_rules | `(tactic| walk_at "CompEnd") => `(tactic| (k_here; (first | with_reducible show LCg.CompEnd _ _ _ _ _ _ _ _ _ _ _ (fun _ _ => KCiEl _ _ _ _ _) _ _ | with_reducible show LCg.CompEnd _ _ _ _ _ _ _ _ _ _ _ (fun _ _ => KCiNo _ _ _ _) _ _); refine Halt.mk ?_))
local macro_rules | `(tactic| walk_at "compareOp Eq int int") => `(tactic| (k_here; k_dflt (first | refine eq_int_y (by with_reducible assumption) ?_ | refine eq_int_n (by with_reducible assumption) ?_ | with_reducible refine eq_int_y rfl ?_)))
local macro_rules | `(tactic| walk_at "binaryOp Mod int int") => `(tactic| (k_here; k_dflt (refine mod_by (by with_reducible assumption) ?_); intro t' k'))
theorem item_two0 {prog : Program} {w : World} {A : Around} {E : Value → Shared → Prop} {s : Shared} {h₀ : Heap} {L l : Addr} {news : List (Addr × Obj)} {a b : Value} {nn : Nat} {u : Tok} {value slice : Expr} {Q : Value → Shared → Prop} (N : News h₀ L s.heap news) (hm : (l, listOf [a, b].toArray nn) ∈ news) (h : Q a s)
    (hs : subscripted slice false (.ref l) (.int 0 u) = operate [.ref l, .int 0 u] (getItem (.ref l) (.int 0 u)) := by with_unfolding_all rfl) : wpAny (model prog w) A (subscriptTail value slice (.ref l) (.int 0 u)) Q E s :=
  item_row (q := 0) N hm rfl rfl (by decide) h hs
theorem item_two1 {prog : Program} {w : World} {A : Around} {E : Value → Shared → Prop} {s : Shared} {h₀ : Heap} {L l : Addr} {news : List (Addr × Obj)} {a b : Value} {nn : Nat} {u : Tok} {value slice : Expr} {Q : Value → Shared → Prop} (N : News h₀ L s.heap news) (hm : (l, listOf [a, b].toArray nn) ∈ news) (h : Q b s)
    (hs : subscripted slice false (.ref l) (.int 1 u) = operate [.ref l, .int 1 u] (getItem (.ref l) (.int 1 u)) := by with_unfolding_all rfl) : wpAny (model prog w) A (subscriptTail value slice (.ref l) (.int 1 u)) Q E s :=
  item_row (q := 1) N hm rfl rfl (by decide) h hs
local macro_rules | `(tactic| walk_at "subscriptTail Name Constant ref int") => `(tactic| (k_here; (with_reducible show wpAny _ _ (subscriptTail _ _ (Value.ref _) (Value.int _ _)) _ _ _); k_dflt (first
  | ((with_reducible show wpAny _ _ (subscriptTail _ _ (Value.ref _) (Value.int 0 _)) _ _ _); refine' item_two0 (by k_asm) (by k_mem) ?_ (by with_unfolding_all rfl))
  | ((with_reducible show wpAny _ _ (subscriptTail _ _ (Value.ref _) (Value.int 1 _)) _ _ _); refine' item_two1 (by k_asm) (by k_mem) ?_ (by with_unfolding_all rfl)))))
local macro_rules | `(tactic| walk_at "subscriptTail Name UnaryOp ref int") => `(tactic| (k_here; (with_reducible show wpAny _ _ (subscriptTail _ _ (Value.ref _) (Value.int _ _)) _ _ _); k_dflt (refine' item_snoc (by k_asm) (by k_mem) (by exact rfl) ?_ (by with_unfolding_all rfl))))
theorem look_sre : sreFenced pw.main = true := by
  rw [PySem.W.Fast.te11788848310118352699]
  kernel_rfl
theorem look_names : namesResolve pw = true := by
  rw [PySem.W.Fast.te8377067652309620493]
  kernel_rfl
theorem look_bound : pw.boundNames.all (fun n => !worldNames.contains n) = true := by
  rw [PySem.W.Fast.te18344453789297297638]
  kernel_rfl
theorem look_meet : namesMeet pw pw.main.body (fun _ n => attrL n) = true := by
  rw [PySem.W.Fast.te17119622794617984870]
  kernel_rfl
theorem looks_law : looksOpen pw = true := by
  unfold looksOpen
  rw [look_sre, look_names, look_bound, look_meet]
  rw [PySem.W.Fast.te8326940854005059898, PySem.W.Fast.te5923862056798008813]
  kernel_rfl
theorem wellSaid_law : PySem.Challenge.rw_rt0056_01.wellSaid = true := by
  unfold OpenLaw.wellSaid OpenRow.wellSaid OpenRow.partSaid
  rw [show looksOpen PySem.Challenge.rw_rt0056_01.row.prog = true from looks_law]
  try rw [PySem.W.Fast.te18344453789297297638]
  try rw [PySem.W.Fast.named_eq]
  try rw [PySem.W.Fast.te10501279942588096481]
  try rw [PySem.W.Fast.te8179353310426384613]
  try rw [PySem.W.Fast.te8326940854005059898]
  try rw [PySem.W.Fast.te9558739934217749035]
  try rw [PySem.W.Fast.te16286561074155671207]
  try rw [PySem.W.Fast.te12879404354523853263]
  try rw [PySem.W.Fast.te482687673346738481]
  try rw [PySem.W.Fast.te17119622794617984870]
  kernel_rfl
set_option maxHeartbeats 1500000 in
theorem law_w : PySem.Challenge.rw_rt0056_01.Holds := by
  w_on
  refine holds_law wellSaid_law fun said9 => ?_
  refine holds_open (q := hd.view_39) (loose := looseL) (Xt := xtL) (XP := XL hd.view_39 lvL) (Yf := hookH.obs) (Ya := hookH.val) (YP := hookH.says) (N := 39604) leftH hookH.of hookH.keeps (fun s e => xl_of s (Bool.and_eq_true_iff.mp e).1) XL.keeps (by rfl) (by rfl) (by rfl) (fun s e => recFacts_of (Bool.and_eq_true_iff.mp e).2) (by rfl) (by first | assumption | decide +kernel) (by decide +kernel) ⟨rfl, rfl, rfl, rfl, rfl, by decide +kernel⟩ ?hw ?hc
  case hw => w_witness2
  delta hookH
  clear said9
  k_go0
  all_goals (try k_fold)
  k_steps
  unfold Halt
  obtain ⟨p, q, t8, t9, rfl, hp1, hp2, hq1, hq2⟩ := pair_two (by assumption)
  refine LCt.CompSrcT.range (n := 12) (by rfl) (by k_asm) (by k_asm) (by assumption) (by decide) (by rfl) (by rw [sizeLine_eq]; decide) ?_
  intro g8
  refine kci_range (comm p q) (fun k8 t8 I8 oI8 C8 oC8 D8 m8 ys8 l8 h8 tk8 E8 hlo8 hhi8 hI8 hC8 hx8 F8 N8 off8 ne8 hM8 => ?_) ?_ (comm_grows _ _)
  · by_cases hm1 : (p : Int).fmod k8 = 0
    · by_cases hm2 : (q : Int).fmod k8 = 0
      · have htk2 : comm p q l8 k8 = l8 ++ [k8] := if_pos ⟨hm1, hm2⟩
        k_steps
        all_goals (try unfold Halt)
        all_goals exact ⟨_, _, _, rfl, by k_asm, by k_asm, by assumption, True.intro, rfl, k8, _, rfl, htk2⟩
      · have htk2 : comm p q l8 k8 = l8 := if_neg (fun h => hm2 h.2)
        k_steps
        all_goals (try unfold Halt)
        all_goals exact ⟨_, _, _, rfl, by k_asm, by k_asm, by assumption, True.intro, rfl, htk2⟩
    · have htk2 : comm p q l8 k8 = l8 := if_neg (fun h => hm1 h.1)
      k_steps
      all_goals (try unfold Halt)
      all_goals exact ⟨_, _, _, rfl, by k_asm, by k_asm, by assumption, True.intro, rfl, htk2⟩
  · unfold KPfDone
    intro ys8 hys8 hyl8
    obtain ⟨pre8, hpre8⟩ := comm_last hp1 hp2 hq1 hq2
    rw [hpre8] at hys8
    obtain ⟨zs8, tz8, rfl⟩ := IntsAre.snoc_inv hys8
    k_steps
    all_goals (try unfold Halt)
    k_dflt (refine' gv_use (div_i _ _ p q _ _ _ _ _ _ _ _ _ rfl rfl rfl (more_eq _) (sign_lo _) (sign_hi _) hp1 hp2 hq1 hq2 (more_lo _) (more_hi _)) ?zB ?zF ?zX ?zN ?zT ?zk ?zd ?zu ?_; (case zB => k_asm); (case zF => k_asm); (case zX => k_asm); (case zN => k_asm); (case zT => k_asm); (case zk => exact rfl); (case zd => first | decide | ktr_room); (case zu => first | decide | ktr_units); intro t' h' k' F' N')
    k_steps
    all_goals (try k_data)
end

end Mine

theorem PySem.Challenge.cw_rt0056_01_holds : PySem.Challenge.rw_rt0056_01.Holds := by
  exact Mine.law_w
