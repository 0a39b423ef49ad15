import PyProof.Rows.All
import Wide.All
import OpenK.AllK
import Wide.FinOn
import PySem.Challenge.RW_io0058_01
open PySem PySem.W PyProof.Rows
set_option Elab.async false

section
open PySem PySem.W PyProof.Rows
set_option maxRecDepth 100000
namespace Mine
/-- does the sign stand for itself in a header? -/
def plain (c : Nat) : Bool := (48 ≤ c && c < 58) || (65 ≤ c && c < 91) || (97 ≤ c && c < 123) || [33, 42, 43, 45, 47].contains c
def hexd (n : Nat) : Nat := if n < 10 then 48 + n else 55 + n
/-- the header map: one octet's word -/
def enc1 (c : Nat) : List Nat := if plain c then [c] else if c = 32 then [95] else [61, hexd (c / 16), hexd (c % 16)]
def times (n : Nat) (l : List Nat) : List Nat := (List.replicate n l).flatten
/-- the law's fate, over Nat -/
def fateN (c r : Nat) : List Nat :=
  if r = 0 then [c] else if plain c then [c] else if c = 32 ∧ r = 1 then [95] else if c = 32 then [61] ++ times (r - 2) [51, 68] ++ [53, 70]
  else [61] ++ times (r - 1) [51, 68] ++ [hexd (c / 16), hexd (c % 16)]

def tabOk (o : Option Obj) : Bool := match o with
  | some ⟨_, _, .seq items _, _⟩ => (List.range 256).all fun c => match items[c]? with
      | some (.str x _) => x.cps.toList == enc1 c
      | _ => false
  | _ => false
theorem tab_of {items : Array Value} {cl : Value} {d : Option Addr} {n : Nat} {sl : Array (Option Value)} (h : tabOk (some ⟨cl, d, .seq items n, sl⟩) = true) {c : Nat} (hc : c < 256) : ∃ x t, items[c]? = some (.str x t) ∧ x.cps.toList = enc1 c := by
  have h' := List.all_eq_true.mp h c (List.mem_range.mpr hc)
  split at h'
  · rename_i x t e
    exact ⟨x, t, e, eq_of_beq h'⟩
  · cases h'

theorem plain_lt {c : Nat} (h : plain c = true) : c < 128 := by
  unfold plain at h
  simp only [Bool.or_eq_true, Bool.and_eq_true, decide_eq_true_eq, List.contains_cons, List.contains_nil, Bool.or_false, beq_iff_eq] at h
  omega
theorem enc1_hex : ∀ n < 16, enc1 (hexd n) = [hexd n] := by decide
theorem hexd_lt : ∀ n < 16, hexd n < 128 := by decide
theorem fate_one (c : Nat) : fateN c 1 = enc1 c := by
  unfold fateN enc1
  by_cases h : c = 32 <;> simp [times, h]
theorem enc1_plain {c : Nat} (h : plain c = true) : enc1 c = [c] := by unfold enc1; rw [if_pos h]
theorem flatMap_times (n : Nat) (l : List Nat) (h : l.flatMap enc1 = l) : (times n l).flatMap enc1 = times n l := by
  induction n with
  | zero => rfl
  | succ n ih =>
    have e : times (n + 1) l = l ++ times n l := by unfold times; rw [List.replicate_succ, List.flatten_cons]
    rw [e, List.flatMap_append, ih, h]
theorem times_succ (n : Nat) (l : List Nat) : times (n + 1) l = l ++ times n l := by unfold times; rw [List.replicate_succ, List.flatten_cons]
/-- one round more -/
theorem fate_succ (c r : Nat) (hc : c < 256) : fateN c (r + 1) = (fateN c r).flatMap enc1 := by
  cases r with
  | zero => rw [fate_one]; simp [fateN]
  | succ r =>
    by_cases hp : plain c = true
    · simp [fateN, hp, enc1_plain hp]
    · by_cases h32 : c = 32
      · subst h32
        cases r with
        | zero => decide
        | succ r =>
          have a1 : fateN 32 (r + 1 + 1 + 1) = [61] ++ times (r + 1) [51, 68] ++ [53, 70] := by
            unfold fateN; rw [if_neg (by omega), if_neg hp, if_neg (by omega), if_pos rfl]; rfl
          have a2 : fateN 32 (r + 1 + 1) = [61] ++ times r [51, 68] ++ [53, 70] := by
            unfold fateN; rw [if_neg (by omega), if_neg hp, if_neg (by omega), if_pos rfl]; rfl
          rw [a1, a2, times_succ, List.flatMap_append, List.flatMap_append, flatMap_times _ _ (by decide)]
          have e1 : [61].flatMap enc1 = [61, 51, 68] := by decide
          have e2 : [53, 70].flatMap enc1 = [53, 70] := by decide
          rw [e1, e2]; simp
      · have a1 : fateN c (r + 1 + 1) = [61] ++ times (r + 1) [51, 68] ++ [hexd (c / 16), hexd (c % 16)] := by
          unfold fateN; rw [if_neg (by omega), if_neg hp, if_neg (fun q => h32 q.1), if_neg h32]; rfl
        have a2 : fateN c (r + 1) = [61] ++ times r [51, 68] ++ [hexd (c / 16), hexd (c % 16)] := by
          unfold fateN; rw [if_neg (by omega), if_neg hp, if_neg (fun q => h32 q.1), if_neg h32]; rfl
        rw [a1, a2, times_succ, List.flatMap_append, List.flatMap_append, flatMap_times _ _ (by decide)]
        have e1 : [61].flatMap enc1 = [61, 51, 68] := by decide
        have e2 : [hexd (c / 16), hexd (c % 16)].flatMap enc1 = [hexd (c / 16), hexd (c % 16)] := by
          simp only [List.flatMap_cons, List.flatMap_nil, enc1_hex _ (show c / 16 < 16 by omega), enc1_hex _ (show c % 16 < 16 by omega)]
          rfl
        rw [e1, e2]; simp
theorem enc1_lt {c d : Nat} (hc : c < 256) (h : d ∈ enc1 c) : d < 128 := by
  unfold enc1 at h
  split at h
  · rw [List.mem_singleton.mp h]; exact plain_lt (by assumption)
  · split at h
    · rw [List.mem_singleton.mp h]; omega
    · simp only [List.mem_cons, List.not_mem_nil, or_false] at h
      rcases h with rfl | rfl | rfl
      · omega
      · exact hexd_lt _ (by omega)
      · exact hexd_lt _ (by omega)
theorem enc1_len (c : Nat) : (enc1 c).length ≤ 3 := by
  unfold enc1
  split
  · simp
  · split <;> simp
theorem flatMap_enc1_len (l : List Nat) : (l.flatMap enc1).length ≤ 3 * l.length := by
  induction l with
  | nil => simp
  | cons c l ih => rw [List.flatMap_cons, List.length_append, List.length_cons]; have := enc1_len c; omega

/-- one call of header_encode -/
def encR (nm text : List Nat) : List Nat := if text = [] then [] else [61, 63] ++ nm ++ [63, 113, 63] ++ text.flatMap enc1 ++ [63, 61]
/-- the word after n rounds -/
def wordN (octs : List Nat) (nm : Nat → List Nat) : Nat → List Nat
  | 0 => octs
  | n + 1 => encR (nm n) (wordN octs nm n)
def fates (l : List Nat) (r : Nat) : List Nat := l.flatMap fun c => fateN c r
/-- what is due after the j inner turns -/
def dueN (octs : List Nat) (nm : Nat → List Nat) (n : Nat) : Nat → List Nat
  | 0 => fates octs n
  | j + 1 => fates ([61, 63] ++ nm j ++ [63, 113, 63]) (n - (j + 1)) ++ dueN octs nm n j ++ fates [63, 61] (n - (j + 1))
theorem fates_succ (l : List Nat) (r : Nat) (h : ∀ c ∈ l, c < 256) : fates l (r + 1) = (fates l r).flatMap enc1 := by
  unfold fates
  rw [List.flatMap_assoc]
  induction l with
  | nil => rfl
  | cons c l ih =>
    rw [List.flatMap_cons, List.flatMap_cons, fate_succ c r (h c (by simp)), ih fun d hd => h d (by simp [hd])]
theorem fates_zero (l : List Nat) : fates l 0 = l := by
  unfold fates
  induction l with
  | nil => rfl
  | cons c l ih => rw [List.flatMap_cons, ih]; simp [fateN]
theorem due_shift (octs : List Nat) (nm : Nat → List Nat) (n : Nat) (ho : ∀ c ∈ octs, c < 256) (hn : ∀ j, ∀ c ∈ nm j, c < 256) : ∀ j ≤ n, dueN octs nm (n + 1) j = (dueN octs nm n j).flatMap enc1
  | 0, _ => fates_succ _ _ ho
  | j + 1, hj => by
    have h1 : ∀ c ∈ [61, 63] ++ nm j ++ [63, 113, 63], c < 256 := by
      intro c hc
      simp only [List.mem_append, List.mem_cons, List.not_mem_nil, or_false] at hc
      rcases hc with ((rfl | rfl) | hc) | rfl | rfl | rfl
      all_goals first | omega | exact hn j c hc
    have h2 : ∀ c ∈ ([63, 61] : List Nat), c < 256 := by decide
    have e : n + 1 - (j + 1) = (n - (j + 1)) + 1 := by omega
    unfold dueN
    rw [e, fates_succ _ _ h1, fates_succ _ _ h2, due_shift octs nm n ho hn j (by omega), List.flatMap_append, List.flatMap_append]
theorem due_word (octs : List Nat) (nm : Nat → List Nat) (hne : octs ≠ []) (ho : ∀ c ∈ octs, c < 256) (hn : ∀ j, ∀ c ∈ nm j, c < 256) : ∀ n, dueN octs nm n n = wordN octs nm n ∧ wordN octs nm n ≠ []
  | 0 => ⟨fates_zero _, hne⟩
  | n + 1 => by
    have ih := due_word octs nm hne ho hn n
    have e : wordN octs nm (n + 1) = [61, 63] ++ nm n ++ [63, 113, 63] ++ (wordN octs nm n).flatMap enc1 ++ [63, 61] := by
      show encR (nm n) (wordN octs nm n) = _
      unfold encR; rw [if_neg ih.2]
    refine ⟨?_, by rw [e]; simp⟩
    rw [e]
    show fates ([61, 63] ++ nm n ++ [63, 113, 63]) (n + 1 - (n + 1)) ++ dueN octs nm (n + 1) n ++ fates [63, 61] (n + 1 - (n + 1)) = _
    rw [Nat.sub_self, fates_zero, fates_zero, due_shift octs nm n ho hn n (Nat.le_refl n), ih.1]
theorem word_nil (nm : Nat → List Nat) : ∀ n, wordN [] nm n = []
  | 0 => rfl
  | n + 1 => by show encR (nm n) (wordN [] nm n) = []; rw [word_nil nm n]; rfl
theorem word_lt (octs : List Nat) (nm : Nat → List Nat) (ho : ∀ c ∈ octs, c < 256) (hn : ∀ j, ∀ c ∈ nm j, c < 256) : ∀ n, ∀ c ∈ wordN octs nm n, c < 256
  | 0 => ho
  | n + 1 => by
    intro c hc
    have hc : c ∈ encR (nm n) (wordN octs nm n) := hc
    unfold encR at hc
    split at hc
    · cases hc
    · simp only [List.mem_append, List.mem_cons, List.not_mem_nil, or_false, List.mem_flatMap] at hc
      rcases hc with ((((rfl | rfl) | hc) | rfl | rfl | rfl) | ⟨d, hd, hc⟩) | rfl | rfl
      all_goals first | omega | exact hn n c hc | (have := enc1_lt (word_lt octs nm ho hn n d hd) hc; omega)
theorem word_len (octs : List Nat) (nm : Nat → List Nat) (hn : ∀ j, (nm j).length ≤ 7) : ∀ n, (wordN octs nm n).length + 7 ≤ 3 ^ n * (octs.length + 7)
  | 0 => by show octs.length + 7 ≤ _; omega
  | n + 1 => by
    have ih := word_len octs nm hn n
    have hb : (encR (nm n) (wordN octs nm n)).length ≤ 14 + 3 * (wordN octs nm n).length := by
      unfold encR
      split
      · simp
      · simp only [List.length_append, List.length_cons, List.length_nil]
        have := flatMap_enc1_len (wordN octs nm n)
        have := hn n
        omega
    have e : 3 ^ (n + 1) * (octs.length + 7) = 3 * (3 ^ n * (octs.length + 7)) := by rw [Nat.pow_succ, Nat.mul_comm (3 ^ n) 3, Nat.mul_assoc]
    show (encR (nm n) (wordN octs nm n)).length + 7 ≤ _
    rw [e]; omega
end Mine
end

section
open PySem PySem.W PyProof.Rows PySem.Calls
set_option maxRecDepth 100000
set_option maxHeartbeats 4000000
namespace Mine
open Builtin

/-! latin1 decode -/
theorem road_latin1 {id : String} {b : Array UInt8} : _codecs.decodeRoad id b (Str.ofString "latin1") none [] = (_codecs.runDecoder id _codecs.latin1Decoder none true b 0 [] >>= fun r => mkStr ⟨r.1⟩) := by kernel_rfl

theorem run_latin1 {prog : Program} {w : World} {A : Around} {E : Value → Shared → Prop} {s : Shared} {id : String} {b : Array UInt8} {Q : Array Nat × Nat → Shared → Prop} (hsz : b.size ≤ sizeLine)
    (h : Q (b.map UInt8.toNat, b.size) s) : wpAny (model prog w) A (_codecs.runDecoder id _codecs.latin1Decoder none true b 0 []) Q E s := by
  unfold _codecs.runDecoder
  dsimp only
  rw [Std.Legacy.Range.forIn_eq_forIn_range']
  refine wpAny_bind ?_
  refine wpAny_forIn_list _ (fun rest r s' => s' = s ∧ r.1 + rest.length = b.size ∧ r.2.1.toList = (b.toList.take r.1).map UInt8.toNat) _ ?_ ?_ _ _ ?_
  · rintro x rest ⟨p, out, st⟩ s' ⟨rfl, hp, ho⟩
    simp only [List.length_cons] at hp ho
    have hos : out.size = p := by
      have := congrArg List.length ho
      simp only [Array.length_toList, List.length_map, List.length_take] at this
      omega
    have h1 : ¬ out.size > sizeLine := by omega
    have h2 : ¬ p ≥ b.size := by omega
    dsimp only
    rw [if_neg h1, if_neg h2]
    show wpAny _ _ (pure (ForInStep.yield (p + 1, out ++ #[(b.getD p 0).toNat], st))) _ _ _
    refine wpAny_pure ⟨rfl, by show p + 1 + rest.length = b.size; omega, ?_⟩
    have hlt : p < b.toList.length := by rw [Array.length_toList]; omega
    have e : b.getD p 0 = b.toList[p] := by
      rw [Array.getD_eq_getD_getElem?, Array.getElem?_eq_getElem (by omega)]
      simp
    show (out ++ #[(b.getD p 0).toNat]).toList = (b.toList.take (p + 1)).map UInt8.toNat
    rw [Array.toList_append, ho, List.take_add_one, List.getElem?_eq_getElem hlt, e]
    simp
  · rintro ⟨p, out, st⟩ s' ⟨rfl, hp, ho⟩
    simp only [List.length_nil, Nat.add_zero] at hp ho
    refine wpAny_pure ?_
    have e : out = b.map UInt8.toNat := by
      apply Array.toList_inj.mp
      rw [ho, hp, Array.toList_map, List.take_of_length_le (by rw [Array.length_toList]; exact Nat.le_refl _)]
    dsimp only
    rw [e, hp]; exact h
  · exact ⟨rfl, by simp [List.length_range'], by simp⟩

theorem meets_text_latin1 {b : Array UInt8} {t t1 t2 : Tok} {d : PySem.Str} :
    Meets («_codecs.decode.text» ⟨[.bytes b t, .str (PySem.Str.ofString "latin1") t1, .none, .str d t2], []⟩) (fun _ R s => b.size ≤ sizeLine ∧ R (.ok (.ret (.str ⟨b.map UInt8.toNat⟩ s.toks))) { s with toks := s.toks + 1 }) := by
  refine .of_wp fun prog w A R s hS => ?_
  obtain ⟨hsz, h⟩ := hS
  show wpAny _ _ (Bytes.bytesLike _ (.bytes b t) >>= fun r => _) _ _ s
  refine wpAny_bind (wpAny_of_eq KBd.like_eq ?_)
  refine wpAny_bind (wpAny_of_eq KBd.held_eq ?_)
  show wpAny _ _ (_codecs.decodeRoad _ b (PySem.Str.ofString "latin1") none [] >>= fun v => _) _ _ s
  rw [road_latin1]
  refine wpAny_bind (wpAny_bind (run_latin1 hsz ?_))
  exact wpAny_mkStr (wpAny_pure ⟨_, rfl, h⟩) (by show (b.map UInt8.toNat).size ≤ sizeLine; rw [Array.size_map]; exact hsz)
theorem entry_latin1 {c : UInt8} {cs : List UInt8} {t t1 : Tok} : «bytes.decode» ⟨[.bytes (c :: cs).toArray t, .str (Str.ofString "latin1") t1], []⟩ = (mkStr (PySem.Str.ofString "utf-8") >>= fun _ => mkStr (PySem.Str.ofString "latin1") >>= fun e => mkStr (PySem.Str.ofString "bytes.decode") >>= fun d =>
    call (.builtin "_codecs.decode.text") [.bytes (c :: cs).toArray t, e, .none, d] >>= fun v => ret v) := by kernel_rfl
theorem meets_latin1 {c : UInt8} {cs : List UInt8} {t t1 : Tok} :
    Meets («bytes.decode» ⟨[.bytes (c :: cs).toArray t, .str (Str.ofString "latin1") t1], []⟩) (fun _ R s => (c :: cs).length ≤ sizeLine ∧ ∀ t' k, R (.ok (.ret (.str ⟨((c :: cs).map UInt8.toNat).toArray⟩ t'))) { s with toks := k }) := by
  refine .of_wp fun prog w A R s hS => ?_
  obtain ⟨hsz, h⟩ := hS
  rw [entry_latin1]
  refine wpAny_bind (wpAny_mkStr ?_ (by decide))
  refine wpAny_bind (wpAny_mkStr ?_ (by decide))
  refine wpAny_bind (wpAny_mkStr ?_ (by decide))
  refine wpAny_bind (call_function_meets KBd.kind_text KBd.plain_text KBd.entry_text (KBd.args_text _ _ _ _) meets_text_latin1 ⟨hsz, wpAny_pure ⟨_, rfl, ?_⟩⟩)
  have e : Array.map UInt8.toNat (c :: cs).toArray = ((c :: cs).map UInt8.toNat).toArray := by simp
  rw [e]
  exact h _ _
theorem args_decode2 (a : Value) {t1 : Tok} : argsOk "bytes.decode" ⟨[a, .str (Str.ofString "latin1") t1], []⟩ := by
  unfold argsOk; rw [signature?_of (id := "bytes.decode") (n := ['e', 'd', 'o', 'c', 'e', 'd']) (o := ['s', 'e', 't', 'y', 'b']) (by kernel_rfl) FB.owner_bytes]; kernel_rfl
theorem decode_latin1 {prog : Program} {w : World} {A : Around} {E : Value → Shared → Prop} {s : Shared} {c : UInt8} {cs : List UInt8} {t t1 : Tok} {Q : Value → Shared → Prop} (hsz : (c :: cs).length ≤ 16777216)
    (h : ∀ t' k, Q (.str ⟨((c :: cs).map UInt8.toNat).toArray⟩ t') { s with toks := k }) :
    wpAny (model prog w) A (call (.builtin "bytes.decode") [.bytes (c :: cs).toArray t, .str (Str.ofString "latin1") t1]) Q E s :=
  call_meets FB.slot_bytes_decode (typeIs_bytes _ _ _) FB.entry_bytes_decode (args_decode2 _) meets_latin1 ⟨by rw [sizeLine_eq]; exact hsz, h⟩
end Mine
end

section
open PySem PySem.W PyProof.Rows PySem.Calls
set_option maxRecDepth 100000
set_option maxHeartbeats 4000000
namespace Mine
open Builtin

theorem tableLookup_list {prog : Program} {w : World} {A : Around} {E : Value → Shared → Prop} {s : Shared} {a : Addr} {items : Array Value} {c : Nat} {x : PySem.Str} {t : Tok} {Q : Str.Mapped → Shared → Prop}
    (hl : s.heap.IsList a items) (hx : items[c]? = some (.str x t)) (hc : c < 2 ^ 62) (h : ∀ k, Q (.text x) { s with toks := k }) : wpAny (model prog w) A (Str.tableLookup (.ref a) c) Q E s := by
  unfold Str.tableLookup
  refine wpAny_bind (wpAny_attempt (wpAny_bind (wpAny_mkInt ?_)))
  refine wpAny_getItem_list (s := { s with toks := s.toks + 1 }) (items := items) hl (by omega) (by omega) (by simpa using hx) ?_
  dsimp only
  exact wpAny_pure (h _)

theorem tooLong_no {n : Nat} (h : n ≤ sizeLine) : Str.tooLong n = false := by
  unfold Str.tooLong
  exact decide_eq_false (by omega)

structure TrInv (cs : List Nat) (tab : Nat → List Nat) (s : Shared) (rest : List Nat) (r : List PySem.Str × Nat × Bool × List (Nat × Option Nat) × Bool) (s' : Shared) : Prop where
  st : ∃ tk, s' = { s with toks := tk }
  drop : r.2.2.2.2 = false
  got : ∃ done, done ++ rest = cs ∧ r.1.reverse.flatMap (·.cps.toList) = done.flatMap tab ∧ r.2.1 = (done.flatMap tab).length
  known : ∀ c v, r.2.2.2.1.lookup c = some v → ∃ d, v = some d ∧ tab c = [d]

theorem TrInv.next {cs : List Nat} {tab : Nat → List Nat} {s : Shared} {c : Nat} {rest : List Nat} {pieces : List PySem.Str} {total : Nat} {fast fast' : Bool} {known known' : List (Nat × Option Nat)} {s' : Shared} {p : PySem.Str} {k n : Nat}
    (I : TrInv cs tab s (c :: rest) (pieces, total, fast, known, false) s') (hp : p.cps.toList = tab c) (hn : n = (tab c).length) (hk : ∀ c v, known'.lookup c = some v → ∃ d, v = some d ∧ tab c = [d]) :
    TrInv cs tab s rest (p :: pieces, total + n, fast', known', false) { s' with toks := k } := by
  obtain ⟨⟨tk, rfl⟩, _, ⟨done, h1, h2, h3⟩, _⟩ := I
  refine ⟨⟨k, rfl⟩, rfl, ⟨done ++ [c], by rw [List.append_assoc]; exact h1, ?_, ?_⟩, hk⟩
  · show (p :: pieces).reverse.flatMap _ = _
    rw [List.reverse_cons, List.flatMap_append, List.flatMap_append]
    have h2' : pieces.reverse.flatMap (·.cps.toList) = done.flatMap tab := h2
    rw [h2']
    simp [hp]
  · have h3' : total = (done.flatMap tab).length := h3
    show total + n = _
    rw [List.flatMap_append, List.length_append, h3', hn]
    simp

theorem foldl_cps (l : List PySem.Str) : ∀ acc : Array Nat, (l.foldl (fun acc p => acc ++ p.cps) acc).toList = acc.toList ++ l.flatMap (·.cps.toList) := by
  induction l with
  | nil => intro acc; simp
  | cons x l ih => intro acc; rw [List.foldl_cons, ih, Array.toList_append, List.flatMap_cons, List.append_assoc]

theorem meets_translate {a : Addr} {items : Array Value} {cs : List Nat} {tab : Nat → List Nat} {t : Tok} (hne : cs ≠ []) (htab : ∀ c ∈ cs, ∃ x t, items[c]? = some (.str x t) ∧ x.cps.toList = tab c) (hlt : ∀ c ∈ cs, c < 256) (hsz : (cs.flatMap tab).length ≤ sizeLine) :
    Meets («str.translate» ⟨[.str ⟨cs.toArray⟩ t, .ref a], []⟩) (fun _ R s => s.heap.IsList a items ∧ ∀ t' k, R (.ok (.ret (.str ⟨(cs.flatMap tab).toArray⟩ t'))) { s with toks := k }) := by
  refine .of_wp fun prog w A R s hS => ?_
  obtain ⟨hl, h⟩ := hS
  unfold «str.translate»
  refine wpAny_bind (show wpAny _ _ (pure (Value.str ⟨cs.toArray⟩ t, (⟨cs.toArray⟩ : PySem.Str), Value.ref a)) _ _ _ from wpAny_pure ?_)
  dsimp only
  have hlen : ((⟨cs.toArray⟩ : PySem.Str).length == 0) = false := by
    show (cs.toArray.size == 0) = false
    rw [List.size_toArray]
    cases cs with
    | nil => exact absurd rfl hne
    | cons => simp
  rw [hlen]
  simp only [Bool.false_eq_true, if_false]
  refine wpAny_bind ?_
  rw [show (forIn (m := Sem) cs.toArray) = (fun b f => forIn (m := Sem) cs b f) from by funext b f; simp]
  refine wpAny_forIn_list _ (TrInv cs tab s) _ ?_ ?_ _ _ ⟨⟨s.toks, rfl⟩, rfl, ⟨[], rfl, rfl, rfl⟩, fun _ _ e => by cases e⟩
  · rintro c rest ⟨pieces, total, fast, known, after⟩ s' I
    obtain rfl : after = false := I.drop
    obtain ⟨tk, hs'⟩ := I.st
    have hl' : s'.heap.IsList a items := by rw [hs']; exact hl
    have hmem : c ∈ cs := by
      obtain ⟨done, h1, _⟩ := I.got
      rw [← h1]; simp
    obtain ⟨x, tx, hx, hxc⟩ := htab c hmem
    have hc := hlt c hmem
    have htot : total ≤ sizeLine := by
      obtain ⟨done, h1, h2, h3⟩ := I.got
      have h3' : total = (done.flatMap tab).length := h3
      have : (done.flatMap tab).length ≤ (cs.flatMap tab).length := by
        rw [← h1, List.flatMap_append, List.length_append]; omega
      omega
    dsimp only
    rw [tooLong_no htot]
    simp only [Bool.false_eq_true, if_false]
    have hxl : x.length = (tab c).length := by rw [← hxc]; simp [PySem.Str.length]
    have slow : ∀ (fast' : Bool) known' s₂, (∃ k, s₂ = { s' with toks := k }) → (∀ c v, known'.lookup c = some v → ∃ d, v = some d ∧ tab c = [d]) →
        ∀ k, TrInv cs tab s rest (x :: pieces, total + x.length, fast', known', false) { s₂ with toks := k } := by
      rintro fast' known' _ ⟨k₂, rfl⟩ hk k
      exact I.next (k := k) hxc hxl hk
    cases fast with
    | false =>
      simp only [Bool.false_eq_true, if_false]
      refine wpAny_bind (tableLookup_list hl' hx (by omega) fun k => ?_)
      exact wpAny_pure (slow false known _ ⟨k, rfl⟩ I.known k)
    | true =>
      simp only [if_true]
      cases hkn : known.lookup c with
      | some v =>
        obtain ⟨d, rfl, hd⟩ := I.known c v hkn
        dsimp only
        refine wpAny_bind (wpAny_pure ?_)
        dsimp only
        refine wpAny_pure ?_
        have := I.next (p := ⟨#[d]⟩) (n := 1) (k := s'.toks) (fast' := true) (by rw [hd]) (by rw [hd]; rfl) I.known
        exact this
      | none =>
        dsimp only
        refine wpAny_bind (tableLookup_list hl' hx (by omega) fun k => ?_)
        dsimp only
        by_cases hc1 : (x.length == 1 && x.cps.all fun x => decide (x < 128)) = true
        · have h1 : x.length = 1 := by
            have := (Bool.and_eq_true_iff.mp hc1).1
            exact eq_of_beq this
          obtain ⟨d, hd⟩ : ∃ d, tab c = [d] := by
            rw [hxl] at h1
            match hq : tab c, h1 with
            | [d], _ => exact ⟨d, rfl⟩
          have hx0 : x.cps[0]? = some d := by
            have : x.cps.toList[0]? = some d := by rw [hxc, hd]; rfl
            simpa using this
          rw [if_pos hc1, hx0]
          dsimp only
          refine wpAny_bind (wpAny_pure ?_)
          dsimp only
          refine wpAny_pure ?_
          refine I.next (p := ⟨#[d]⟩) (n := 1) (by rw [hd]) (by rw [hd]; rfl) fun c' v' e => ?_
          rw [List.lookup_cons] at e
          cases hb : c' == c with
          | true => rw [hb] at e; cases e; exact ⟨d, rfl, by rw [eq_of_beq hb]; exact hd⟩
          | false => rw [hb] at e; exact I.known c' v' e
        · rw [if_neg hc1]
          dsimp only
          refine wpAny_bind (wpAny_pure ?_)
          dsimp only
          refine wpAny_bind (wpAny_rule ?_)
          (try simp only [Bool.false_eq_true, if_false])
          refine wpAny_bind (tableLookup_list (s := { s' with toks := k }) hl' hx (by omega) fun k => ?_)
          exact wpAny_pure (slow false known _ ⟨k, rfl⟩ I.known k)
  · rintro ⟨pieces, total, fast, known, after⟩ s' I
    obtain ⟨⟨tk, rfl⟩, _, ⟨done, h1, h2, h3⟩, _⟩ := I
    rw [List.append_nil] at h1
    subst h1
    have h3' : total = (done.flatMap tab).length := h3
    dsimp only
    rw [tooLong_no (by omega)]
    simp only [Bool.false_eq_true, if_false]
    have e : (List.foldl (fun acc p => acc ++ p.cps) #[] pieces.reverse : Array Nat) = (done.flatMap tab).toArray := by
      apply Array.toList_inj.mp
      rw [foldl_cps]
      simpa using h2
    rw [e]
    unfold retStr
    refine wpAny_bind (wpAny_mkStr ?_ (by show (done.flatMap tab).toArray.size ≤ sizeLine; rw [List.size_toArray]; exact hsz))
    exact wpAny_pure ⟨_, rfl, h _ _⟩

theorem call_translate {prog : Program} {w : World} {A : Around} {E : Value → Shared → Prop} {s : Shared} {a : Addr} {items : Array Value} {cs : List Nat} {tab : Nat → List Nat} {t : Tok} {Q : Value → Shared → Prop}
    (hl : s.heap.IsList a items) (hne : cs ≠ []) (htab : ∀ c ∈ cs, ∃ x t, items[c]? = some (.str x t) ∧ x.cps.toList = tab c) (hlt : ∀ c ∈ cs, c < 256) (hsz : (cs.flatMap tab).length ≤ 16777216)
    (h : ∀ t' k, Q (.str ⟨(cs.flatMap tab).toArray⟩ t') { s with toks := k }) :
    wpAny (model prog w) A (call (.builtin "str.translate") [.str ⟨cs.toArray⟩ t, .ref a]) Q E s :=
  call_meets F.slot_str_translate (typeIs_str _ _ _) F.entry_str_translate (F.args_str_translate_2 _ _) (meets_translate hne htab hlt (by rw [sizeLine_eq]; exact hsz)) ⟨hl, h⟩
end Mine
end

section
open PySem PySem.W PyProof.Rows
set_option maxRecDepth 100000
set_option maxHeartbeats 8000000
namespace Mine
theorem prime_pw : (PySem.Challenge.pw_io0058_01.modules.isEmpty) = true := by k_qdec
noncomputable section
noncomputable abbrev PQ : Program := PySem.W.Fast.tw13276805671724995306
noncomputable abbrev TB : String → Option Builtin := PySem.W.Fast.tw14364793385576792824
noncomputable abbrev goQ := PySem.W.Fast.tw10295753902157049106
noncomputable abbrev runQ := PySem.W.Fast.tw10110043849684766642
noncomputable abbrev execsQ := PySem.W.Fast.tw12563942051412417395
abbrev PW : Program := PySem.Challenge.pw_io0058_01
abbrev q (l : List Nat) : Str := ⟨⟨l⟩⟩
abbrev kh := PyData.keyHash
def p0 : Pos := ⟨0, 0, 0, 0⟩
def envH (p : Program) : Env := { scope := p.main.scope, locals := mainNs, globals := mainNs, cells := [], code := .ref 13, frame := some 14 }
def codeH (p : Program) : Code := .body (behindTheImports p) (envH p)
def nthS : List Stmt → Nat → Stmt
  | [], _ => .Pass p0
  | s :: _, 0 => s
  | _ :: r, n + 1 => nthS r n
def fnArgs : Stmt → Arguments
  | .FunctionDef _ a _ _ _ _ _ _ _ _ => a
  | _ => default
def fnBody : Stmt → List Stmt
  | .FunctionDef _ _ b _ _ _ _ _ _ _ => b
  | _ => []
def fnScope : Stmt → Scope
  | .FunctionDef _ _ _ _ _ _ sc _ _ _ => sc
  | _ => default
def thr (p : Program) (ex : List Stmt → Env → Sem Flow) (l : List Stmt) (pos : Pos) : Thread := ⟨(ex l (envH p)).wrap doneF deadEnd id id, codeH p, pos, [topFrame p0]⟩
/-- a tree out of a list of objects -/
def treeOf (l : List Obj) : Nat → Nat → Nat → BT
  | 0, _, _ => .nil
  | f + 1, a, b => match l[b]? with
    | some o => .node o (treeOf l f (2 * a) (a + b)) (treeOf l f (2 * a) (2 * a + b))
    | none => .nil
def stT (l : List Obj) (n toks : Nat) (os : OsState) : SharedT := ⟨treeOf l 8 1 0, n, {}, #[], {}, toks, os⟩
def hexc (n : Nat) : Nat := if Nat.blt n 10 then 48 + n else 55 + n
def hx (i : Nat) : Str := q [61, hexc (i / 16), hexc (i % 16)]
def mapItems (n : Nat) : List Value := (List.range n).map fun i => .str (hx i) (193 + 4 * i)
def hdrBytes : List UInt8 := [45, 33, 42, 43, 47, 97, 98, 99, 100, 101, 102, 103, 104, 105, 106, 107, 108, 109, 110, 111, 112, 113, 114, 115, 116, 117, 118, 119, 120, 121, 122, 65, 66, 67, 68, 69, 70, 71, 72, 73, 74, 75, 76, 77, 78, 79, 80, 81, 82, 83, 84, 85, 86, 87, 88, 89, 90, 48, 49, 50, 51, 52, 53, 54, 55, 56, 57]
def bodyBytes : List UInt8 := [32, 33, 34, 35, 36, 37, 38, 39, 40, 41, 42, 43, 44, 45, 46, 47, 48, 49, 50, 51, 52, 53, 54, 55, 56, 57, 58, 59, 60, 62, 63, 64, 65, 66, 67, 68, 69, 70, 71, 72, 73, 74, 75, 76, 77, 78, 79, 80, 81, 82, 83, 84, 85, 86, 87, 88, 89, 90, 91, 92, 93, 94, 95, 96, 97, 98, 99, 100, 101, 102, 103, 104, 105, 106, 107, 108, 109, 110, 111, 112, 113, 114, 115, 116, 117, 118, 119, 120, 121, 122, 123, 124, 125, 126, 9]
/-- the items after the bytes' turns: each byte's place holds its own sign -/
def setAll : List UInt8 → Nat → List Value → List Value
  | [], _, l => l
  | b :: r, t, l => setAll r (t + 3) (l.set b.toNat (.str (q [b.toNat]) t))
def hdrItems (i : Nat) : List Value := setAll (hdrBytes.take i) 1236 (mapItems 256)
def hdrDone : List Value := (hdrItems 67).set 32 (.str (q [95]) 1435)
def bodyItems (i : Nat) : List Value := setAll (bodyBytes.take i) 1441 (mapItems 256)
def encDone : List Value := ((bodyItems 95).set 13 (.str (q [13]) 1738)).set 10 (.str (q [10]) 1741)
def o11_pre (p : Program) (P : Params) : Obj := ⟨(.type "tuple"), none, (.seq (⟨[]⟩) 0), (⟨[]⟩)⟩
def o12_pre (p : Program) (P : Params) : Obj := ⟨.none, none, (.fields (⟨[]⟩)), (⟨[]⟩)⟩
def o13_pre (p : Program) (P : Params) : Obj := ⟨(.type "code"), none, (.fields (⟨[(.str (q [60, 109, 111, 100, 117, 108, 101, 62]) 182), (.str (q [60, 109, 111, 100, 117, 108, 101, 62]) 183), (.str (q [47, 99, 108, 97, 105, 109, 47, 99, 117, 116, 46, 112, 121]) 184), (.int 1 0), (.int 0 0), (.int 0 0), (.int 0 0), (.int 0 0), (.ref 11), (.bool false), (.int 181 0), (.ref 12), .none, .none, .none, .none, (.int 185 0), (.int 1 0), (.str (q [47, 99, 108, 97, 105, 109, 47, 99, 117, 116, 46, 112, 121]) 186)]⟩)), (⟨[]⟩)⟩
def o14_pre (p : Program) (P : Params) : Obj := ⟨(.type "frame"), none, .plain, (⟨[some (.ref 13), some (.ref 3), some (.ref 3), none, some (.str (q [95, 95, 109, 97, 105, 110, 95, 95]) 164), none, some (.ref 0)]⟩)⟩
def o3_0 (p : Program) (P : Params) : Obj := ⟨(.type "dict"), none, (.dict (⟨[⟨kh P (q [95, 95, 110, 97, 109, 101, 95, 95]), (.str (q [95, 95, 110, 97, 109, 101, 95, 95]) 165), (.str (q [95, 95, 109, 97, 105, 110, 95, 95]) 164)⟩, ⟨kh P (q [95, 95, 100, 111, 99, 95, 95]), (.str (q [95, 95, 100, 111, 99, 95, 95]) 166), .none⟩, ⟨kh P (q [95, 95, 112, 97, 99, 107, 97, 103, 101, 95, 95]), (.str (q [95, 95, 112, 97, 99, 107, 97, 103, 101, 95, 95]) 167), .none⟩, ⟨kh P (q [95, 95, 108, 111, 97, 100, 101, 114, 95, 95]), (.str (q [95, 95, 108, 111, 97, 100, 101, 114, 95, 95]) 168), (.builtin "__main__.__loader__#opaque")⟩, ⟨kh P (q [95, 95, 115, 112, 101, 99, 95, 95]), (.str (q [95, 95, 115, 112, 101, 99, 95, 95]) 169), .none⟩, ⟨kh P (q [95, 95, 97, 110, 110, 111, 116, 97, 116, 105, 111, 110, 115, 95, 95]), (.str (q [95, 95, 97, 110, 110, 111, 116, 97, 116, 105, 111, 110, 115, 95, 95]) 170), (.ref 6)⟩, ⟨kh P (q [95, 95, 98, 117, 105, 108, 116, 105, 110, 115, 95, 95]), (.str (q [95, 95, 98, 117, 105, 108, 116, 105, 110, 115, 95, 95]) 171), (.ref 4)⟩, ⟨kh P (q [95, 95, 102, 105, 108, 101, 95, 95]), (.str (q [95, 95, 102, 105, 108, 101, 95, 95]) 173), (.str (q [47, 99, 108, 97, 105, 109, 47, 99, 117, 116, 46, 112, 121]) 172)⟩, ⟨kh P (q [95, 95, 99, 97, 99, 104, 101, 100, 95, 95]), (.str (q [95, 95, 99, 97, 99, 104, 101, 100, 95, 95]) 174), .none⟩, ⟨kh P (q [95, 81, 85, 79, 80, 82, 73, 95, 77, 65, 80]), (.str (q [95, 81, 85, 79, 80, 82, 73, 95, 77, 65, 80]) 1214), (.ref 17)⟩]⟩) 10), (⟨[]⟩)⟩
def o15_0 (p : Program) (P : Params) : Obj := ⟨(.type "range"), none, (.fields (⟨[(.int 0 188), (.int 256 187), (.int 1 189)]⟩)), (⟨[]⟩)⟩
def o16_0 (p : Program) (P : Params) : Obj := ⟨(.type "range_iterator"), none, (.fields (⟨[(.int 256 0), (.int 0 0), (.int 1 0)]⟩)), (⟨[]⟩)⟩
def o17_0 (p : Program) (P : Params) : Obj := ⟨(.type "list"), none, (.seq (⟨mapItems 256⟩) 256), (⟨[]⟩)⟩
def o18_0 (p : Program) (P : Params) : Obj := ⟨(.type "dict"), none, (.dict (⟨[]⟩) 2), (⟨[]⟩)⟩
def o19_0 (p : Program) (P : Params) : Obj := ⟨(.type "tuple"), none, (.seq (⟨[]⟩) 0), (⟨[]⟩)⟩
def o20_0 (p : Program) (P : Params) : Obj := ⟨(.type "StopIteration"), none, (.fields (⟨[(.ref 19), .none, .none, .none, (.bool false), .none]⟩)), (⟨[]⟩)⟩
def o3_7 (p : Program) (P : Params) : Obj := ⟨(.type "dict"), none, (.dict (⟨[⟨kh P (q [95, 95, 110, 97, 109, 101, 95, 95]), (.str (q [95, 95, 110, 97, 109, 101, 95, 95]) 165), (.str (q [99, 112, 121, 51, 49, 51, 46, 101, 109, 97, 105, 108, 46, 113, 117, 111, 112, 114, 105, 109, 105, 109, 101]) 1225)⟩, ⟨kh P (q [95, 95, 100, 111, 99, 95, 95]), (.str (q [95, 95, 100, 111, 99, 95, 95]) 166), .none⟩, ⟨kh P (q [95, 95, 112, 97, 99, 107, 97, 103, 101, 95, 95]), (.str (q [95, 95, 112, 97, 99, 107, 97, 103, 101, 95, 95]) 167), .none⟩, ⟨kh P (q [95, 95, 108, 111, 97, 100, 101, 114, 95, 95]), (.str (q [95, 95, 108, 111, 97, 100, 101, 114, 95, 95]) 168), (.builtin "__main__.__loader__#opaque")⟩, ⟨kh P (q [95, 95, 115, 112, 101, 99, 95, 95]), (.str (q [95, 95, 115, 112, 101, 99, 95, 95]) 169), .none⟩, ⟨kh P (q [95, 95, 97, 110, 110, 111, 116, 97, 116, 105, 111, 110, 115, 95, 95]), (.str (q [95, 95, 97, 110, 110, 111, 116, 97, 116, 105, 111, 110, 115, 95, 95]) 170), (.ref 6)⟩, ⟨kh P (q [95, 95, 98, 117, 105, 108, 116, 105, 110, 115, 95, 95]), (.str (q [95, 95, 98, 117, 105, 108, 116, 105, 110, 115, 95, 95]) 171), (.ref 4)⟩, ⟨kh P (q [95, 95, 102, 105, 108, 101, 95, 95]), (.str (q [95, 95, 102, 105, 108, 101, 95, 95]) 173), (.str (q [47, 99, 108, 97, 105, 109, 47, 99, 117, 116, 46, 112, 121]) 172)⟩, ⟨kh P (q [95, 95, 99, 97, 99, 104, 101, 100, 95, 95]), (.str (q [95, 95, 99, 97, 99, 104, 101, 100, 95, 95]) 174), .none⟩, ⟨kh P (q [95, 81, 85, 79, 80, 82, 73, 95, 77, 65, 80]), (.str (q [95, 81, 85, 79, 80, 82, 73, 95, 77, 65, 80]) 1214), (.ref 17)⟩, ⟨kh P (q [95, 81, 85, 79, 80, 82, 73, 95, 72, 69, 65, 68, 69, 82, 95, 77, 65, 80]), (.str (q [95, 81, 85, 79, 80, 82, 73, 95, 72, 69, 65, 68, 69, 82, 95, 77, 65, 80]) 1215), (.ref 22)⟩, ⟨kh P (q [95, 81, 85, 79, 80, 82, 73, 95, 66, 79, 68, 89, 95, 77, 65, 80]), (.str (q [95, 81, 85, 79, 80, 82, 73, 95, 66, 79, 68, 89, 95, 77, 65, 80]) 1216), (.ref 24)⟩, ⟨kh P (q [97, 115, 99, 105, 105, 95, 108, 111, 119, 101, 114, 99, 97, 115, 101]), (.str (q [97, 115, 99, 105, 105, 95, 108, 111, 119, 101, 114, 99, 97, 115, 101]) 1218), (.str (q [97, 98, 99, 100, 101, 102, 103, 104, 105, 106, 107, 108, 109, 110, 111, 112, 113, 114, 115, 116, 117, 118, 119, 120, 121, 122]) 1217)⟩, ⟨kh P (q [97, 115, 99, 105, 105, 95, 117, 112, 112, 101, 114, 99, 97, 115, 101]), (.str (q [97, 115, 99, 105, 105, 95, 117, 112, 112, 101, 114, 99, 97, 115, 101]) 1220), (.str (q [65, 66, 67, 68, 69, 70, 71, 72, 73, 74, 75, 76, 77, 78, 79, 80, 81, 82, 83, 84, 85, 86, 87, 88, 89, 90]) 1219)⟩, ⟨kh P (q [97, 115, 99, 105, 105, 95, 108, 101, 116, 116, 101, 114, 115]), (.str (q [97, 115, 99, 105, 105, 95, 108, 101, 116, 116, 101, 114, 115]) 1222), (.str (q [97, 98, 99, 100, 101, 102, 103, 104, 105, 106, 107, 108, 109, 110, 111, 112, 113, 114, 115, 116, 117, 118, 119, 120, 121, 122, 65, 66, 67, 68, 69, 70, 71, 72, 73, 74, 75, 76, 77, 78, 79, 80, 81, 82, 83, 84, 85, 86, 87, 88, 89, 90]) 1221)⟩, ⟨kh P (q [100, 105, 103, 105, 116, 115]), (.str (q [100, 105, 103, 105, 116, 115]) 1224), (.str (q [48, 49, 50, 51, 52, 53, 54, 55, 56, 57]) 1223)⟩]⟩) 16), (⟨[]⟩)⟩
def o21_1 (p : Program) (P : Params) : Obj := ⟨(.type "slice"), none, (.fields (⟨[.none, .none, .none]⟩)), (⟨[]⟩)⟩
def o22_1 (p : Program) (P : Params) : Obj := ⟨(.type "list"), none, (.seq (⟨mapItems 256⟩) 0), (⟨[]⟩)⟩
def o23_2 (p : Program) (P : Params) : Obj := ⟨(.type "slice"), none, (.fields (⟨[.none, .none, .none]⟩)), (⟨[]⟩)⟩
def o24_2 (p : Program) (P : Params) : Obj := ⟨(.type "list"), none, (.seq (⟨mapItems 256⟩) 0), (⟨[]⟩)⟩
def o3_8 (p : Program) (P : Params) : Obj := ⟨(.type "dict"), none, (.dict (⟨[⟨kh P (q [95, 95, 110, 97, 109, 101, 95, 95]), (.str (q [95, 95, 110, 97, 109, 101, 95, 95]) 165), (.str (q [99, 112, 121, 51, 49, 51, 46, 101, 109, 97, 105, 108, 46, 113, 117, 111, 112, 114, 105, 109, 105, 109, 101]) 1225)⟩, ⟨kh P (q [95, 95, 100, 111, 99, 95, 95]), (.str (q [95, 95, 100, 111, 99, 95, 95]) 166), .none⟩, ⟨kh P (q [95, 95, 112, 97, 99, 107, 97, 103, 101, 95, 95]), (.str (q [95, 95, 112, 97, 99, 107, 97, 103, 101, 95, 95]) 167), .none⟩, ⟨kh P (q [95, 95, 108, 111, 97, 100, 101, 114, 95, 95]), (.str (q [95, 95, 108, 111, 97, 100, 101, 114, 95, 95]) 168), (.builtin "__main__.__loader__#opaque")⟩, ⟨kh P (q [95, 95, 115, 112, 101, 99, 95, 95]), (.str (q [95, 95, 115, 112, 101, 99, 95, 95]) 169), .none⟩, ⟨kh P (q [95, 95, 97, 110, 110, 111, 116, 97, 116, 105, 111, 110, 115, 95, 95]), (.str (q [95, 95, 97, 110, 110, 111, 116, 97, 116, 105, 111, 110, 115, 95, 95]) 170), (.ref 6)⟩, ⟨kh P (q [95, 95, 98, 117, 105, 108, 116, 105, 110, 115, 95, 95]), (.str (q [95, 95, 98, 117, 105, 108, 116, 105, 110, 115, 95, 95]) 171), (.ref 4)⟩, ⟨kh P (q [95, 95, 102, 105, 108, 101, 95, 95]), (.str (q [95, 95, 102, 105, 108, 101, 95, 95]) 173), (.str (q [47, 99, 108, 97, 105, 109, 47, 99, 117, 116, 46, 112, 121]) 172)⟩, ⟨kh P (q [95, 95, 99, 97, 99, 104, 101, 100, 95, 95]), (.str (q [95, 95, 99, 97, 99, 104, 101, 100, 95, 95]) 174), .none⟩, ⟨kh P (q [95, 81, 85, 79, 80, 82, 73, 95, 77, 65, 80]), (.str (q [95, 81, 85, 79, 80, 82, 73, 95, 77, 65, 80]) 1214), (.ref 17)⟩, ⟨kh P (q [95, 81, 85, 79, 80, 82, 73, 95, 72, 69, 65, 68, 69, 82, 95, 77, 65, 80]), (.str (q [95, 81, 85, 79, 80, 82, 73, 95, 72, 69, 65, 68, 69, 82, 95, 77, 65, 80]) 1215), (.ref 22)⟩, ⟨kh P (q [95, 81, 85, 79, 80, 82, 73, 95, 66, 79, 68, 89, 95, 77, 65, 80]), (.str (q [95, 81, 85, 79, 80, 82, 73, 95, 66, 79, 68, 89, 95, 77, 65, 80]) 1216), (.ref 24)⟩, ⟨kh P (q [97, 115, 99, 105, 105, 95, 108, 111, 119, 101, 114, 99, 97, 115, 101]), (.str (q [97, 115, 99, 105, 105, 95, 108, 111, 119, 101, 114, 99, 97, 115, 101]) 1218), (.str (q [97, 98, 99, 100, 101, 102, 103, 104, 105, 106, 107, 108, 109, 110, 111, 112, 113, 114, 115, 116, 117, 118, 119, 120, 121, 122]) 1217)⟩, ⟨kh P (q [97, 115, 99, 105, 105, 95, 117, 112, 112, 101, 114, 99, 97, 115, 101]), (.str (q [97, 115, 99, 105, 105, 95, 117, 112, 112, 101, 114, 99, 97, 115, 101]) 1220), (.str (q [65, 66, 67, 68, 69, 70, 71, 72, 73, 74, 75, 76, 77, 78, 79, 80, 81, 82, 83, 84, 85, 86, 87, 88, 89, 90]) 1219)⟩, ⟨kh P (q [97, 115, 99, 105, 105, 95, 108, 101, 116, 116, 101, 114, 115]), (.str (q [97, 115, 99, 105, 105, 95, 108, 101, 116, 116, 101, 114, 115]) 1222), (.str (q [97, 98, 99, 100, 101, 102, 103, 104, 105, 106, 107, 108, 109, 110, 111, 112, 113, 114, 115, 116, 117, 118, 119, 120, 121, 122, 65, 66, 67, 68, 69, 70, 71, 72, 73, 74, 75, 76, 77, 78, 79, 80, 81, 82, 83, 84, 85, 86, 87, 88, 89, 90]) 1221)⟩, ⟨kh P (q [100, 105, 103, 105, 116, 115]), (.str (q [100, 105, 103, 105, 116, 115]) 1224), (.str (q [48, 49, 50, 51, 52, 53, 54, 55, 56, 57]) 1223)⟩, ⟨kh P (q [99]), (.str (q [99]) 1235), (.int 57 1432)⟩]⟩) 17), (⟨[]⟩)⟩
def o22_8 (p : Program) (P : Params) : Obj := ⟨(.type "list"), none, (.seq (⟨hdrItems 67⟩) 0), (⟨[]⟩)⟩
def o25_8 (p : Program) (P : Params) : Obj := ⟨(.type "bytes_iterator"), none, (.fields (⟨[.none, (.int 67 0)]⟩)), (⟨[]⟩)⟩
def o26_8 (p : Program) (P : Params) : Obj := ⟨(.type "tuple"), none, (.seq (⟨[]⟩) 0), (⟨[]⟩)⟩
def o27_8 (p : Program) (P : Params) : Obj := ⟨(.type "StopIteration"), none, (.fields (⟨[(.ref 26), .none, .none, .none, (.bool false), .none]⟩)), (⟨[]⟩)⟩
def o22_9 (p : Program) (P : Params) : Obj := ⟨(.type "list"), none, (.seq (⟨hdrDone⟩) 0), (⟨[]⟩)⟩
def o3_10 (p : Program) (P : Params) : Obj := ⟨(.type "dict"), none, (.dict (⟨[⟨kh P (q [95, 95, 110, 97, 109, 101, 95, 95]), (.str (q [95, 95, 110, 97, 109, 101, 95, 95]) 165), (.str (q [99, 112, 121, 51, 49, 51, 46, 101, 109, 97, 105, 108, 46, 113, 117, 111, 112, 114, 105, 109, 105, 109, 101]) 1225)⟩, ⟨kh P (q [95, 95, 100, 111, 99, 95, 95]), (.str (q [95, 95, 100, 111, 99, 95, 95]) 166), .none⟩, ⟨kh P (q [95, 95, 112, 97, 99, 107, 97, 103, 101, 95, 95]), (.str (q [95, 95, 112, 97, 99, 107, 97, 103, 101, 95, 95]) 167), .none⟩, ⟨kh P (q [95, 95, 108, 111, 97, 100, 101, 114, 95, 95]), (.str (q [95, 95, 108, 111, 97, 100, 101, 114, 95, 95]) 168), (.builtin "__main__.__loader__#opaque")⟩, ⟨kh P (q [95, 95, 115, 112, 101, 99, 95, 95]), (.str (q [95, 95, 115, 112, 101, 99, 95, 95]) 169), .none⟩, ⟨kh P (q [95, 95, 97, 110, 110, 111, 116, 97, 116, 105, 111, 110, 115, 95, 95]), (.str (q [95, 95, 97, 110, 110, 111, 116, 97, 116, 105, 111, 110, 115, 95, 95]) 170), (.ref 6)⟩, ⟨kh P (q [95, 95, 98, 117, 105, 108, 116, 105, 110, 115, 95, 95]), (.str (q [95, 95, 98, 117, 105, 108, 116, 105, 110, 115, 95, 95]) 171), (.ref 4)⟩, ⟨kh P (q [95, 95, 102, 105, 108, 101, 95, 95]), (.str (q [95, 95, 102, 105, 108, 101, 95, 95]) 173), (.str (q [47, 99, 108, 97, 105, 109, 47, 99, 117, 116, 46, 112, 121]) 172)⟩, ⟨kh P (q [95, 95, 99, 97, 99, 104, 101, 100, 95, 95]), (.str (q [95, 95, 99, 97, 99, 104, 101, 100, 95, 95]) 174), .none⟩, ⟨kh P (q [95, 81, 85, 79, 80, 82, 73, 95, 77, 65, 80]), (.str (q [95, 81, 85, 79, 80, 82, 73, 95, 77, 65, 80]) 1214), (.ref 17)⟩, ⟨kh P (q [95, 81, 85, 79, 80, 82, 73, 95, 72, 69, 65, 68, 69, 82, 95, 77, 65, 80]), (.str (q [95, 81, 85, 79, 80, 82, 73, 95, 72, 69, 65, 68, 69, 82, 95, 77, 65, 80]) 1215), (.ref 22)⟩, ⟨kh P (q [95, 81, 85, 79, 80, 82, 73, 95, 66, 79, 68, 89, 95, 77, 65, 80]), (.str (q [95, 81, 85, 79, 80, 82, 73, 95, 66, 79, 68, 89, 95, 77, 65, 80]) 1216), (.ref 24)⟩, ⟨kh P (q [97, 115, 99, 105, 105, 95, 108, 111, 119, 101, 114, 99, 97, 115, 101]), (.str (q [97, 115, 99, 105, 105, 95, 108, 111, 119, 101, 114, 99, 97, 115, 101]) 1218), (.str (q [97, 98, 99, 100, 101, 102, 103, 104, 105, 106, 107, 108, 109, 110, 111, 112, 113, 114, 115, 116, 117, 118, 119, 120, 121, 122]) 1217)⟩, ⟨kh P (q [97, 115, 99, 105, 105, 95, 117, 112, 112, 101, 114, 99, 97, 115, 101]), (.str (q [97, 115, 99, 105, 105, 95, 117, 112, 112, 101, 114, 99, 97, 115, 101]) 1220), (.str (q [65, 66, 67, 68, 69, 70, 71, 72, 73, 74, 75, 76, 77, 78, 79, 80, 81, 82, 83, 84, 85, 86, 87, 88, 89, 90]) 1219)⟩, ⟨kh P (q [97, 115, 99, 105, 105, 95, 108, 101, 116, 116, 101, 114, 115]), (.str (q [97, 115, 99, 105, 105, 95, 108, 101, 116, 116, 101, 114, 115]) 1222), (.str (q [97, 98, 99, 100, 101, 102, 103, 104, 105, 106, 107, 108, 109, 110, 111, 112, 113, 114, 115, 116, 117, 118, 119, 120, 121, 122, 65, 66, 67, 68, 69, 70, 71, 72, 73, 74, 75, 76, 77, 78, 79, 80, 81, 82, 83, 84, 85, 86, 87, 88, 89, 90]) 1221)⟩, ⟨kh P (q [100, 105, 103, 105, 116, 115]), (.str (q [100, 105, 103, 105, 116, 115]) 1224), (.str (q [48, 49, 50, 51, 52, 53, 54, 55, 56, 57]) 1223)⟩, ⟨kh P (q [99]), (.str (q [99]) 1235), (.int 9 1721)⟩]⟩) 17), (⟨[]⟩)⟩
def o24_10 (p : Program) (P : Params) : Obj := ⟨(.type "list"), none, (.seq (⟨bodyItems 95⟩) 0), (⟨[]⟩)⟩
def o28_10 (p : Program) (P : Params) : Obj := ⟨(.type "bytes_iterator"), none, (.fields (⟨[.none, (.int 95 0)]⟩)), (⟨[]⟩)⟩
def o29_10 (p : Program) (P : Params) : Obj := ⟨(.type "tuple"), none, (.seq (⟨[]⟩) 0), (⟨[]⟩)⟩
def o30_10 (p : Program) (P : Params) : Obj := ⟨(.type "StopIteration"), none, (.fields (⟨[(.ref 29), .none, .none, .none, (.bool false), .none]⟩)), (⟨[]⟩)⟩
def o12_17 (p : Program) (P : Params) : Obj := ⟨.none, none, (.fields (⟨[(.int 14 0), (.int 0 0), (.ref 37), (.int 24 0), (.int 0 0), (.ref 49), (.int 35 0), (.int 0 0), (.ref 54)]⟩)), (⟨[]⟩)⟩
def o3_17 (p : Program) (P : Params) : Obj := ⟨(.type "dict"), none, (.dict (⟨[⟨kh P (q [95, 95, 110, 97, 109, 101, 95, 95]), (.str (q [95, 95, 110, 97, 109, 101, 95, 95]) 165), (.str (q [108, 97, 119, 95, 105, 111, 48, 48, 53, 56, 95, 48, 49]) 1742)⟩, ⟨kh P (q [95, 95, 100, 111, 99, 95, 95]), (.str (q [95, 95, 100, 111, 99, 95, 95]) 166), .none⟩, ⟨kh P (q [95, 95, 112, 97, 99, 107, 97, 103, 101, 95, 95]), (.str (q [95, 95, 112, 97, 99, 107, 97, 103, 101, 95, 95]) 167), .none⟩, ⟨kh P (q [95, 95, 108, 111, 97, 100, 101, 114, 95, 95]), (.str (q [95, 95, 108, 111, 97, 100, 101, 114, 95, 95]) 168), (.builtin "__main__.__loader__#opaque")⟩, ⟨kh P (q [95, 95, 115, 112, 101, 99, 95, 95]), (.str (q [95, 95, 115, 112, 101, 99, 95, 95]) 169), .none⟩, ⟨kh P (q [95, 95, 97, 110, 110, 111, 116, 97, 116, 105, 111, 110, 115, 95, 95]), (.str (q [95, 95, 97, 110, 110, 111, 116, 97, 116, 105, 111, 110, 115, 95, 95]) 170), (.ref 6)⟩, ⟨kh P (q [95, 95, 98, 117, 105, 108, 116, 105, 110, 115, 95, 95]), (.str (q [95, 95, 98, 117, 105, 108, 116, 105, 110, 115, 95, 95]) 171), (.ref 4)⟩, ⟨kh P (q [95, 95, 102, 105, 108, 101, 95, 95]), (.str (q [95, 95, 102, 105, 108, 101, 95, 95]) 173), (.str (q [47, 99, 108, 97, 105, 109, 47, 99, 117, 116, 46, 112, 121]) 172)⟩, ⟨kh P (q [95, 95, 99, 97, 99, 104, 101, 100, 95, 95]), (.str (q [95, 95, 99, 97, 99, 104, 101, 100, 95, 95]) 174), .none⟩, ⟨kh P (q [95, 81, 85, 79, 80, 82, 73, 95, 77, 65, 80]), (.str (q [95, 81, 85, 79, 80, 82, 73, 95, 77, 65, 80]) 1214), (.ref 17)⟩, ⟨kh P (q [95, 81, 85, 79, 80, 82, 73, 95, 72, 69, 65, 68, 69, 82, 95, 77, 65, 80]), (.str (q [95, 81, 85, 79, 80, 82, 73, 95, 72, 69, 65, 68, 69, 82, 95, 77, 65, 80]) 1215), (.ref 22)⟩, ⟨kh P (q [95, 81, 85, 79, 80, 82, 73, 95, 66, 79, 68, 89, 95, 77, 65, 80]), (.str (q [95, 81, 85, 79, 80, 82, 73, 95, 66, 79, 68, 89, 95, 77, 65, 80]) 1216), (.ref 24)⟩, ⟨kh P (q [97, 115, 99, 105, 105, 95, 108, 111, 119, 101, 114, 99, 97, 115, 101]), (.str (q [97, 115, 99, 105, 105, 95, 108, 111, 119, 101, 114, 99, 97, 115, 101]) 1218), (.str (q [97, 98, 99, 100, 101, 102, 103, 104, 105, 106, 107, 108, 109, 110, 111, 112, 113, 114, 115, 116, 117, 118, 119, 120, 121, 122]) 1217)⟩, ⟨kh P (q [97, 115, 99, 105, 105, 95, 117, 112, 112, 101, 114, 99, 97, 115, 101]), (.str (q [97, 115, 99, 105, 105, 95, 117, 112, 112, 101, 114, 99, 97, 115, 101]) 1220), (.str (q [65, 66, 67, 68, 69, 70, 71, 72, 73, 74, 75, 76, 77, 78, 79, 80, 81, 82, 83, 84, 85, 86, 87, 88, 89, 90]) 1219)⟩, ⟨kh P (q [97, 115, 99, 105, 105, 95, 108, 101, 116, 116, 101, 114, 115]), (.str (q [97, 115, 99, 105, 105, 95, 108, 101, 116, 116, 101, 114, 115]) 1222), (.str (q [97, 98, 99, 100, 101, 102, 103, 104, 105, 106, 107, 108, 109, 110, 111, 112, 113, 114, 115, 116, 117, 118, 119, 120, 121, 122, 65, 66, 67, 68, 69, 70, 71, 72, 73, 74, 75, 76, 77, 78, 79, 80, 81, 82, 83, 84, 85, 86, 87, 88, 89, 90]) 1221)⟩, ⟨kh P (q [100, 105, 103, 105, 116, 115]), (.str (q [100, 105, 103, 105, 116, 115]) 1224), (.str (q [48, 49, 50, 51, 52, 53, 54, 55, 56, 57]) 1223)⟩, ⟨kh P (q [104, 101, 97, 100, 101, 114, 95, 101, 110, 99, 111, 100, 101]), (.str (q [104, 101, 97, 100, 101, 114, 95, 101, 110, 99, 111, 100, 101]) 1733), (.ref 38)⟩, ⟨kh P (q [95, 81, 85, 79, 80, 82, 73, 95, 66, 79, 68, 89, 95, 69, 78, 67, 79, 68, 69, 95, 77, 65, 80]), (.str (q [95, 81, 85, 79, 80, 82, 73, 95, 66, 79, 68, 89, 95, 69, 78, 67, 79, 68, 69, 95, 77, 65, 80]) 1734), (.ref 40)⟩, ⟨kh P (q [95, 108, 97, 119, 95, 102, 97, 116, 101]), (.str (q [95, 108, 97, 119, 95, 102, 97, 116, 101]) 1752), (.ref 50)⟩, ⟨kh P (q [108, 97, 119]), (.str (q [108, 97, 119]) 1758), (.ref 55)⟩]⟩) 22), (⟨[]⟩)⟩
def o31_11 (p : Program) (P : Params) : Obj := ⟨(.type "tuple"), none, (.seq (⟨[(.str (q [105, 115, 111, 45, 56, 56, 53, 57, 45, 49]) 1724)]⟩) 0), (⟨[]⟩)⟩
def o32_11 (p : Program) (P : Params) : Obj := ⟨(.type "tuple"), none, (.seq (⟨[]⟩) 0), (⟨[]⟩)⟩
def o33_11 (p : Program) (P : Params) : Obj := ⟨.none, none, (.fields (⟨[]⟩)), (⟨[]⟩)⟩
def o34_11 (p : Program) (P : Params) : Obj := ⟨(.type "tuple"), none, (.seq (⟨[(.str (q [104, 101, 97, 100, 101, 114, 95, 98, 121, 116, 101, 115]) 1728), (.str (q [99, 104, 97, 114, 115, 101, 116]) 1729), (.str (q [101, 110, 99, 111, 100, 101, 100]) 1730)]⟩) 0), (⟨[]⟩)⟩
def o35_11 (p : Program) (P : Params) : Obj := ⟨(.type "tuple"), none, (.seq (⟨[]⟩) 0), (⟨[]⟩)⟩
def o36_11 (p : Program) (P : Params) : Obj := ⟨.none, none, (.func ⟨(q [104, 101, 97, 100, 101, 114, 95, 101, 110, 99, 111, 100, 101]), (q [104, 101, 97, 100, 101, 114, 95, 101, 110, 99, 111, 100, 101]), fnArgs (nthS p.main.body 11), .stmts (fnBody (nthS p.main.body 11)), fnScope (nthS p.main.body 11), 0, [], .none, .none, .none, .none, none, .none, .none, 0⟩), (⟨[]⟩)⟩
def o37_11 (p : Program) (P : Params) : Obj := ⟨(.type "code"), none, (.fields (⟨[(.str (q [104, 101, 97, 100, 101, 114, 95, 101, 110, 99, 111, 100, 101]) 1725), (.str (q [104, 101, 97, 100, 101, 114, 95, 101, 110, 99, 111, 100, 101]) 1726), (.str (q [47, 99, 108, 97, 105, 109, 47, 99, 117, 116, 46, 112, 121]) 1727), (.int 14 0), (.int 2 0), (.int 0 0), (.int 0 0), (.int 3 0), (.ref 32), (.bool true), (.int 181 0), (.ref 33), .none, (.ref 34), (.ref 35), (.ref 36), (.int 1731 0), (.int 14 0), (.str (q [47, 99, 108, 97, 105, 109, 47, 99, 117, 116, 46, 112, 121]) 1732)]⟩)), (⟨[]⟩)⟩
def o38_11 (p : Program) (P : Params) : Obj := ⟨(.type "function"), none, (.func ⟨(q [104, 101, 97, 100, 101, 114, 95, 101, 110, 99, 111, 100, 101]), (q [104, 101, 97, 100, 101, 114, 95, 101, 110, 99, 111, 100, 101]), fnArgs (nthS p.main.body 11), .stmts (fnBody (nthS p.main.body 11)), fnScope (nthS p.main.body 11), 3, [], (.ref 31), .none, .none, (.str (q [99, 112, 121, 51, 49, 51, 46, 101, 109, 97, 105, 108, 46, 113, 117, 111, 112, 114, 105, 109, 105, 109, 101]) 1225), none, (.ref 37), .none, 0⟩), (⟨[]⟩)⟩
def o39_12 (p : Program) (P : Params) : Obj := ⟨(.type "slice"), none, (.fields (⟨[.none, .none, .none]⟩)), (⟨[]⟩)⟩
def o40_13 (p : Program) (P : Params) : Obj := ⟨(.type "list"), none, (.seq (⟨encDone⟩) 0), (⟨[]⟩)⟩
def o41_13 (p : Program) (P : Params) : Obj := ⟨(.type "bytes_iterator"), none, (.fields (⟨[.none, (.int 2 0)]⟩)), (⟨[]⟩)⟩
def o42_13 (p : Program) (P : Params) : Obj := ⟨(.type "tuple"), none, (.seq (⟨[]⟩) 0), (⟨[]⟩)⟩
def o43_13 (p : Program) (P : Params) : Obj := ⟨(.type "StopIteration"), none, (.fields (⟨[(.ref 42), .none, .none, .none, (.bool false), .none]⟩)), (⟨[]⟩)⟩
def o44_16 (p : Program) (P : Params) : Obj := ⟨(.type "tuple"), none, (.seq (⟨[]⟩) 0), (⟨[]⟩)⟩
def o45_16 (p : Program) (P : Params) : Obj := ⟨.none, none, (.fields (⟨[]⟩)), (⟨[]⟩)⟩
def o46_16 (p : Program) (P : Params) : Obj := ⟨(.type "tuple"), none, (.seq (⟨[(.str (q [111, 99, 116, 101, 116]) 1747), (.str (q [114, 111, 117, 110, 100, 115]) 1748), (.str (q [102, 105, 103, 117, 114, 101, 115]) 1749)]⟩) 0), (⟨[]⟩)⟩
def o47_16 (p : Program) (P : Params) : Obj := ⟨(.type "tuple"), none, (.seq (⟨[]⟩) 0), (⟨[]⟩)⟩
def o48_16 (p : Program) (P : Params) : Obj := ⟨.none, none, (.func ⟨(q [95, 108, 97, 119, 95, 102, 97, 116, 101]), (q [95, 108, 97, 119, 95, 102, 97, 116, 101]), fnArgs (nthS p.main.body 16), .stmts (fnBody (nthS p.main.body 16)), fnScope (nthS p.main.body 16), 0, [], .none, .none, .none, .none, none, .none, .none, 0⟩), (⟨[]⟩)⟩
def o49_16 (p : Program) (P : Params) : Obj := ⟨(.type "code"), none, (.fields (⟨[(.str (q [95, 108, 97, 119, 95, 102, 97, 116, 101]) 1744), (.str (q [95, 108, 97, 119, 95, 102, 97, 116, 101]) 1745), (.str (q [47, 99, 108, 97, 105, 109, 47, 99, 117, 116, 46, 112, 121]) 1746), (.int 24 0), (.int 2 0), (.int 0 0), (.int 0 0), (.int 3 0), (.ref 44), (.bool true), (.int 181 0), (.ref 45), .none, (.ref 46), (.ref 47), (.ref 48), (.int 1750 0), (.int 24 0), (.str (q [47, 99, 108, 97, 105, 109, 47, 99, 117, 116, 46, 112, 121]) 1751)]⟩)), (⟨[]⟩)⟩
def o50_16 (p : Program) (P : Params) : Obj := ⟨(.type "function"), none, (.func ⟨(q [95, 108, 97, 119, 95, 102, 97, 116, 101]), (q [95, 108, 97, 119, 95, 102, 97, 116, 101]), fnArgs (nthS p.main.body 16), .stmts (fnBody (nthS p.main.body 16)), fnScope (nthS p.main.body 16), 3, [], .none, .none, .none, (.str (q [108, 97, 119, 95, 105, 111, 48, 48, 53, 56, 95, 48, 49]) 1742), none, (.ref 49), .none, 0⟩), (⟨[]⟩)⟩
def o51_17 (p : Program) (P : Params) : Obj := ⟨(.type "tuple"), none, (.seq (⟨[]⟩) 0), (⟨[]⟩)⟩
def o52_17 (p : Program) (P : Params) : Obj := ⟨.none, none, (.fields (⟨[]⟩)), (⟨[]⟩)⟩
def o53_17 (p : Program) (P : Params) : Obj := ⟨.none, none, (.func ⟨(q [108, 97, 119]), (q [108, 97, 119]), fnArgs (nthS p.main.body 17), .stmts (fnBody (nthS p.main.body 17)), fnScope (nthS p.main.body 17), 0, [], .none, .none, .none, .none, none, .none, .none, 0⟩), (⟨[]⟩)⟩
def o54_17 (p : Program) (P : Params) : Obj := ⟨(.type "code"), none, (.fields (⟨[(.str (q [108, 97, 119]) 1753), (.str (q [108, 97, 119]) 1754), (.str (q [47, 99, 108, 97, 105, 109, 47, 99, 117, 116, 46, 112, 121]) 1755), (.int 35 0), (.int 1 0), (.int 0 0), (.int 0 0), (.int 3 0), (.ref 51), (.bool true), (.int 181 0), (.ref 52), .none, .none, .none, (.ref 53), (.int 1756 0), (.int 35 0), (.str (q [47, 99, 108, 97, 105, 109, 47, 99, 117, 116, 46, 112, 121]) 1757)]⟩)), (⟨[]⟩)⟩
def o55_17 (p : Program) (P : Params) : Obj := ⟨(.type "function"), none, (.func ⟨(q [108, 97, 119]), (q [108, 97, 119]), fnArgs (nthS p.main.body 17), .stmts (fnBody (nthS p.main.body 17)), fnScope (nthS p.main.body 17), 3, [], .none, .none, .none, (.str (q [108, 97, 119, 95, 105, 111, 48, 48, 53, 56, 95, 48, 49]) 1742), none, (.ref 54), .none, 0⟩), (⟨[]⟩)⟩
def objs_pre (p : Program) (P : Params) : List Obj := [boot_o_0 P, boot_o_1 P, boot_o_2 P, boot_o_3 P, boot_o_4 P, boot_o_5 P, boot_o_6 P, boot_o_7 P, boot_o_8 P, boot_o_9 P, boot_o_10 P, o11_pre p P, o12_pre p P, o13_pre p P, o14_pre p P] -- 15
def objs_0 (p : Program) (P : Params) : List Obj := [boot_o_0 P, boot_o_1 P, boot_o_2 P, o3_0 p P, boot_o_4 P, boot_o_5 P, boot_o_6 P, boot_o_7 P, boot_o_8 P, boot_o_9 P, boot_o_10 P, o11_pre p P, o12_pre p P, o13_pre p P, o14_pre p P, o15_0 p P, o16_0 p P, o17_0 p P, o18_0 p P, o19_0 p P, o20_0 p P] -- 21
def objs_7 (p : Program) (P : Params) : List Obj := [boot_o_0 P, boot_o_1 P, boot_o_2 P, o3_7 p P, boot_o_4 P, boot_o_5 P, boot_o_6 P, boot_o_7 P, boot_o_8 P, boot_o_9 P, boot_o_10 P, o11_pre p P, o12_pre p P, o13_pre p P, o14_pre p P, o15_0 p P, o16_0 p P, o17_0 p P, o18_0 p P, o19_0 p P, o20_0 p P, o21_1 p P, o22_1 p P, o23_2 p P, o24_2 p P] -- 25
def objs_8 (p : Program) (P : Params) : List Obj := [boot_o_0 P, boot_o_1 P, boot_o_2 P, o3_8 p P, boot_o_4 P, boot_o_5 P, boot_o_6 P, boot_o_7 P, boot_o_8 P, boot_o_9 P, boot_o_10 P, o11_pre p P, o12_pre p P, o13_pre p P, o14_pre p P, o15_0 p P, o16_0 p P, o17_0 p P, o18_0 p P, o19_0 p P, o20_0 p P, o21_1 p P, o22_8 p P, o23_2 p P, o24_2 p P, o25_8 p P, o26_8 p P, o27_8 p P] -- 28
def objs_9 (p : Program) (P : Params) : List Obj := [boot_o_0 P, boot_o_1 P, boot_o_2 P, o3_8 p P, boot_o_4 P, boot_o_5 P, boot_o_6 P, boot_o_7 P, boot_o_8 P, boot_o_9 P, boot_o_10 P, o11_pre p P, o12_pre p P, o13_pre p P, o14_pre p P, o15_0 p P, o16_0 p P, o17_0 p P, o18_0 p P, o19_0 p P, o20_0 p P, o21_1 p P, o22_9 p P, o23_2 p P, o24_2 p P, o25_8 p P, o26_8 p P, o27_8 p P] -- 28
def objs_10 (p : Program) (P : Params) : List Obj := [boot_o_0 P, boot_o_1 P, boot_o_2 P, o3_10 p P, boot_o_4 P, boot_o_5 P, boot_o_6 P, boot_o_7 P, boot_o_8 P, boot_o_9 P, boot_o_10 P, o11_pre p P, o12_pre p P, o13_pre p P, o14_pre p P, o15_0 p P, o16_0 p P, o17_0 p P, o18_0 p P, o19_0 p P, o20_0 p P, o21_1 p P, o22_9 p P, o23_2 p P, o24_10 p P, o25_8 p P, o26_8 p P, o27_8 p P, o28_10 p P, o29_10 p P, o30_10 p P] -- 31
def objs_17 (p : Program) (P : Params) : List Obj := [boot_o_0 P, boot_o_1 P, boot_o_2 P, o3_17 p P, boot_o_4 P, boot_o_5 P, boot_o_6 P, boot_o_7 P, boot_o_8 P, boot_o_9 P, boot_o_10 P, o11_pre p P, o12_17 p P, o13_pre p P, o14_pre p P, o15_0 p P, o16_0 p P, o17_0 p P, o18_0 p P, o19_0 p P, o20_0 p P, o21_1 p P, o22_9 p P, o23_2 p P, o24_10 p P, o25_8 p P, o26_8 p P, o27_8 p P, o28_10 p P, o29_10 p P, o30_10 p P, o31_11 p P, o32_11 p P, o33_11 p P, o34_11 p P, o35_11 p P, o36_11 p P, o37_11 p P, o38_11 p P, o39_12 p P, o40_13 p P, o41_13 p P, o42_13 p P, o43_13 p P, o44_16 p P, o45_16 p P, o46_16 p P, o47_16 p P, o48_16 p P, o49_16 p P, o50_16 p P, o51_17 p P, o52_17 p P, o53_17 p P, o54_17 p P, o55_17 p P] -- 56
def o3c (p : Program) (P : Params) (cv : Int) (tk : Nat) : Obj := ⟨(.type "dict"), none, (.dict (⟨[⟨kh P (q [95, 95, 110, 97, 109, 101, 95, 95]), (.str (q [95, 95, 110, 97, 109, 101, 95, 95]) 165), (.str (q [99, 112, 121, 51, 49, 51, 46, 101, 109, 97, 105, 108, 46, 113, 117, 111, 112, 114, 105, 109, 105, 109, 101]) 1225)⟩, ⟨kh P (q [95, 95, 100, 111, 99, 95, 95]), (.str (q [95, 95, 100, 111, 99, 95, 95]) 166), .none⟩, ⟨kh P (q [95, 95, 112, 97, 99, 107, 97, 103, 101, 95, 95]), (.str (q [95, 95, 112, 97, 99, 107, 97, 103, 101, 95, 95]) 167), .none⟩, ⟨kh P (q [95, 95, 108, 111, 97, 100, 101, 114, 95, 95]), (.str (q [95, 95, 108, 111, 97, 100, 101, 114, 95, 95]) 168), (.builtin "__main__.__loader__#opaque")⟩, ⟨kh P (q [95, 95, 115, 112, 101, 99, 95, 95]), (.str (q [95, 95, 115, 112, 101, 99, 95, 95]) 169), .none⟩, ⟨kh P (q [95, 95, 97, 110, 110, 111, 116, 97, 116, 105, 111, 110, 115, 95, 95]), (.str (q [95, 95, 97, 110, 110, 111, 116, 97, 116, 105, 111, 110, 115, 95, 95]) 170), (.ref 6)⟩, ⟨kh P (q [95, 95, 98, 117, 105, 108, 116, 105, 110, 115, 95, 95]), (.str (q [95, 95, 98, 117, 105, 108, 116, 105, 110, 115, 95, 95]) 171), (.ref 4)⟩, ⟨kh P (q [95, 95, 102, 105, 108, 101, 95, 95]), (.str (q [95, 95, 102, 105, 108, 101, 95, 95]) 173), (.str (q [47, 99, 108, 97, 105, 109, 47, 99, 117, 116, 46, 112, 121]) 172)⟩, ⟨kh P (q [95, 95, 99, 97, 99, 104, 101, 100, 95, 95]), (.str (q [95, 95, 99, 97, 99, 104, 101, 100, 95, 95]) 174), .none⟩, ⟨kh P (q [95, 81, 85, 79, 80, 82, 73, 95, 77, 65, 80]), (.str (q [95, 81, 85, 79, 80, 82, 73, 95, 77, 65, 80]) 1214), (.ref 17)⟩, ⟨kh P (q [95, 81, 85, 79, 80, 82, 73, 95, 72, 69, 65, 68, 69, 82, 95, 77, 65, 80]), (.str (q [95, 81, 85, 79, 80, 82, 73, 95, 72, 69, 65, 68, 69, 82, 95, 77, 65, 80]) 1215), (.ref 22)⟩, ⟨kh P (q [95, 81, 85, 79, 80, 82, 73, 95, 66, 79, 68, 89, 95, 77, 65, 80]), (.str (q [95, 81, 85, 79, 80, 82, 73, 95, 66, 79, 68, 89, 95, 77, 65, 80]) 1216), (.ref 24)⟩, ⟨kh P (q [97, 115, 99, 105, 105, 95, 108, 111, 119, 101, 114, 99, 97, 115, 101]), (.str (q [97, 115, 99, 105, 105, 95, 108, 111, 119, 101, 114, 99, 97, 115, 101]) 1218), (.str (q [97, 98, 99, 100, 101, 102, 103, 104, 105, 106, 107, 108, 109, 110, 111, 112, 113, 114, 115, 116, 117, 118, 119, 120, 121, 122]) 1217)⟩, ⟨kh P (q [97, 115, 99, 105, 105, 95, 117, 112, 112, 101, 114, 99, 97, 115, 101]), (.str (q [97, 115, 99, 105, 105, 95, 117, 112, 112, 101, 114, 99, 97, 115, 101]) 1220), (.str (q [65, 66, 67, 68, 69, 70, 71, 72, 73, 74, 75, 76, 77, 78, 79, 80, 81, 82, 83, 84, 85, 86, 87, 88, 89, 90]) 1219)⟩, ⟨kh P (q [97, 115, 99, 105, 105, 95, 108, 101, 116, 116, 101, 114, 115]), (.str (q [97, 115, 99, 105, 105, 95, 108, 101, 116, 116, 101, 114, 115]) 1222), (.str (q [97, 98, 99, 100, 101, 102, 103, 104, 105, 106, 107, 108, 109, 110, 111, 112, 113, 114, 115, 116, 117, 118, 119, 120, 121, 122, 65, 66, 67, 68, 69, 70, 71, 72, 73, 74, 75, 76, 77, 78, 79, 80, 81, 82, 83, 84, 85, 86, 87, 88, 89, 90]) 1221)⟩, ⟨kh P (q [100, 105, 103, 105, 116, 115]), (.str (q [100, 105, 103, 105, 116, 115]) 1224), (.str (q [48, 49, 50, 51, 52, 53, 54, 55, 56, 57]) 1223)⟩, ⟨kh P (q [99]), (.str (q [99]) 1235), (.int cv tk)⟩]⟩) 17), (⟨[]⟩)⟩
def o16t (i : Nat) : Obj := ⟨(.type "range_iterator"), none, (.fields (⟨[(.int i 0), (.int ((256 - i : Nat) : Int) 0), (.int 1 0)]⟩)), (⟨[]⟩)⟩
def o17t (i : Nat) : Obj := ⟨(.type "list"), none, (.seq (⟨mapItems i⟩) i), (⟨[]⟩)⟩
def o18t (P : Params) (i : Nat) : Obj := ⟨(.type "dict"), none, (.dict (⟨[⟨kh P (q [99]), (.str (q [99]) 191), (.int ((i - 1 : Nat) : Int) (186 + 4 * i))⟩]⟩) 1), (⟨[]⟩)⟩
def lst (l : List Value) : Obj := ⟨(.type "list"), none, (.seq (⟨l⟩) 0), (⟨[]⟩)⟩
def bit (l : List UInt8) (t i : Nat) : Obj := ⟨(.type "bytes_iterator"), none, (.fields (⟨[(.bytes (⟨l⟩) t), (.int i 0)]⟩)), (⟨[]⟩)⟩
def byteAt (l : List UInt8) (i : Nat) : Int := ((l.getD (i - 1) 0).toNat : Int)
def objsT0 (p : Program) (P : Params) (i : Nat) : List Obj := [boot_o_0 P, boot_o_1 P, boot_o_2 P, boot_o_3 P, boot_o_4 P, boot_o_5 P, boot_o_6 P, boot_o_7 P, boot_o_8 P, boot_o_9 P, boot_o_10 P, o11_pre p P, o12_pre p P, o13_pre p P, o14_pre p P, o15_0 p P, o16t i, o17t i, o18t P i]
def objsT8 (p : Program) (P : Params) (i : Nat) : List Obj := [boot_o_0 P, boot_o_1 P, boot_o_2 P, o3c p P (byteAt hdrBytes i) (1231 + 3 * i), boot_o_4 P, boot_o_5 P, boot_o_6 P, boot_o_7 P, boot_o_8 P, boot_o_9 P, boot_o_10 P, o11_pre p P, o12_pre p P, o13_pre p P, o14_pre p P, o15_0 p P, o16_0 p P, o17_0 p P, o18_0 p P, o19_0 p P, o20_0 p P, o21_1 p P, lst (hdrItems i), o23_2 p P, o24_2 p P, bit hdrBytes 1233 i]
def objsT10 (p : Program) (P : Params) (i : Nat) : List Obj := [boot_o_0 P, boot_o_1 P, boot_o_2 P, o3c p P (byteAt bodyBytes i) (1436 + 3 * i), boot_o_4 P, boot_o_5 P, boot_o_6 P, boot_o_7 P, boot_o_8 P, boot_o_9 P, boot_o_10 P, o11_pre p P, o12_pre p P, o13_pre p P, o14_pre p P, o15_0 p P, o16_0 p P, o17_0 p P, o18_0 p P, o19_0 p P, o20_0 p P, o21_1 p P, o22_9 p P, o23_2 p P, lst (bodyItems i), o25_8 p P, o26_8 p P, o27_8 p P, bit bodyBytes 1438 i]
def E_pre (p : Program) (w : World) (os : OsState) : SharedT := stT (objs_pre p w.params) 15 187 os
def E_0 (p : Program) (w : World) (os : OsState) : SharedT := stT (objs_0 p w.params) 21 1215 os
def E_7 (p : Program) (w : World) (os : OsState) : SharedT := stT (objs_7 p w.params) 25 1227 os
def E_8 (p : Program) (w : World) (os : OsState) : SharedT := stT (objs_8 p w.params) 28 1435 os
def E_9 (p : Program) (w : World) (os : OsState) : SharedT := stT (objs_9 p w.params) 28 1438 os
def E_10 (p : Program) (w : World) (os : OsState) : SharedT := stT (objs_10 p w.params) 31 1724 os
def E_17 (p : Program) (w : World) (os : OsState) : SharedT := stT (objs_17 p w.params) 56 1759 os
def St0 (p : Program) (i : Nat) (w : World) (os : OsState) : SharedT := stT (objsT0 p w.params i) 19 (190 + 4 * i) os
def St8 (p : Program) (i : Nat) (w : World) (os : OsState) : SharedT := stT (objsT8 p w.params i) 26 (1234 + 3 * i) os
def St10 (p : Program) (i : Nat) (w : World) (os : OsState) : SharedT := stT (objsT10 p w.params i) 29 (1439 + 3 * i) os
abbrev ann6 : Option Value := some (.ref 6)
def sl (p : Program) (a b : Nat) : List Stmt := (behindTheImports p).drop a |>.take (b - a)
def P_0 : Pos := ⟨1, 0, 1, 11⟩
def P_7 : Pos := ⟨8, 0, 8, 8⟩
def P_8 : Pos := ⟨9, 9, 9, 74⟩
def P_9 : Pos := ⟨11, 0, 11, 28⟩
def P_10 : Pos := ⟨12, 9, 12, 110⟩
def P_17 : Pos := ⟨35, 0, 52, 15⟩
def th0 : Thread := thr PQ execsQ (sl PQ 0 1) p0
def th8 : Thread := thr PQ execsQ (sl PQ 8 9) P_7
def th10 : Thread := thr PQ execsQ (sl PQ 10 11) P_9
def T0 (w : World) (os : OsState) : Thread := match goQ TB PQ (w.withFollow "comprehension-iter-twice" true) 11 ann6 1 78 (E_pre PQ (w.withFollow "comprehension-iter-twice" true) os) th0 with | some x => x.2 | none => th0
def T8 (w : World) (os : OsState) : Thread := match goQ TB PQ w 11 ann6 1 88 (E_7 PQ w os) th8 with | some x => x.2 | none => th8
def T10 (w : World) (os : OsState) : Thread := match goQ TB PQ w 11 ann6 1 54 (E_9 PQ w os) th10 with | some x => x.2 | none => th10
abbrev spec (w : World) (b : Bool) : World := w.withFollow "special-get-raises" b
abbrev twice (w : World) (b : Bool) : World := w.withFollow "comprehension-iter-twice" b
theorem a0_true (w : World) : ∀ os, goQ TB PQ (twice w true) 11 ann6 1 78 (E_pre PQ (twice w true) os) th0 = some (St0 PQ 1 (twice w true) os, T0 (twice w true) os) :=
  byRow2 "special-get-raises" (P := fun w => ∀ os, goQ TB PQ (twice w true) 11 ann6 1 78 (E_pre PQ (twice w true) os) th0 = some (St0 PQ 1 (twice w true) os, T0 (twice w true) os)) (fun w os => by kernel_rfl) (fun w os => by kernel_rfl) w
theorem a0_false (w : World) : ∀ os, goQ TB PQ (twice w false) 11 ann6 1 88 (E_pre PQ (twice w false) os) th0 = some (St0 PQ 1 (twice w false) os, T0 (twice w false) os) :=
  byRow2 "special-get-raises" (P := fun w => ∀ os, goQ TB PQ (twice w false) 11 ann6 1 88 (E_pre PQ (twice w false) os) th0 = some (St0 PQ 1 (twice w false) os, T0 (twice w false) os)) (fun w os => by kernel_rfl) (fun w os => by kernel_rfl) w
theorem c0_0 (w : World) : ∀ os, goQ TB PQ w 11 ann6 1 1184 (St0 PQ 1 w os) (T0 w os) = some (St0 PQ 33 w os, T0 w os) :=
  byRow2 "special-get-raises" (P := fun w => ∀ os, goQ TB PQ w 11 ann6 1 1184 (St0 PQ 1 w os) (T0 w os) = some (St0 PQ 33 w os, T0 w os)) (fun w os => by kernel_rfl) (fun w os => by kernel_rfl) w
theorem c0_1 (w : World) : ∀ os, goQ TB PQ w 11 ann6 1 1184 (St0 PQ 33 w os) (T0 w os) = some (St0 PQ 65 w os, T0 w os) :=
  byRow2 "special-get-raises" (P := fun w => ∀ os, goQ TB PQ w 11 ann6 1 1184 (St0 PQ 33 w os) (T0 w os) = some (St0 PQ 65 w os, T0 w os)) (fun w os => by kernel_rfl) (fun w os => by kernel_rfl) w
theorem c0_2 (w : World) : ∀ os, goQ TB PQ w 11 ann6 1 1184 (St0 PQ 65 w os) (T0 w os) = some (St0 PQ 97 w os, T0 w os) :=
  byRow2 "special-get-raises" (P := fun w => ∀ os, goQ TB PQ w 11 ann6 1 1184 (St0 PQ 65 w os) (T0 w os) = some (St0 PQ 97 w os, T0 w os)) (fun w os => by kernel_rfl) (fun w os => by kernel_rfl) w
theorem c0_3 (w : World) : ∀ os, goQ TB PQ w 11 ann6 1 1184 (St0 PQ 97 w os) (T0 w os) = some (St0 PQ 129 w os, T0 w os) :=
  byRow2 "special-get-raises" (P := fun w => ∀ os, goQ TB PQ w 11 ann6 1 1184 (St0 PQ 97 w os) (T0 w os) = some (St0 PQ 129 w os, T0 w os)) (fun w os => by kernel_rfl) (fun w os => by kernel_rfl) w
theorem c0_4 (w : World) : ∀ os, goQ TB PQ w 11 ann6 1 1184 (St0 PQ 129 w os) (T0 w os) = some (St0 PQ 161 w os, T0 w os) :=
  byRow2 "special-get-raises" (P := fun w => ∀ os, goQ TB PQ w 11 ann6 1 1184 (St0 PQ 129 w os) (T0 w os) = some (St0 PQ 161 w os, T0 w os)) (fun w os => by kernel_rfl) (fun w os => by kernel_rfl) w
theorem c0_5 (w : World) : ∀ os, goQ TB PQ w 11 ann6 1 1184 (St0 PQ 161 w os) (T0 w os) = some (St0 PQ 193 w os, T0 w os) :=
  byRow2 "special-get-raises" (P := fun w => ∀ os, goQ TB PQ w 11 ann6 1 1184 (St0 PQ 161 w os) (T0 w os) = some (St0 PQ 193 w os, T0 w os)) (fun w os => by kernel_rfl) (fun w os => by kernel_rfl) w
theorem c0_6 (w : World) : ∀ os, goQ TB PQ w 11 ann6 1 1184 (St0 PQ 193 w os) (T0 w os) = some (St0 PQ 225 w os, T0 w os) :=
  byRow2 "special-get-raises" (P := fun w => ∀ os, goQ TB PQ w 11 ann6 1 1184 (St0 PQ 193 w os) (T0 w os) = some (St0 PQ 225 w os, T0 w os)) (fun w os => by kernel_rfl) (fun w os => by kernel_rfl) w
theorem c0_7 (w : World) : ∀ os, goQ TB PQ w 11 ann6 1 1147 (St0 PQ 225 w os) (T0 w os) = some (St0 PQ 256 w os, T0 w os) :=
  byRow2 "special-get-raises" (P := fun w => ∀ os, goQ TB PQ w 11 ann6 1 1147 (St0 PQ 225 w os) (T0 w os) = some (St0 PQ 256 w os, T0 w os)) (fun w os => by kernel_rfl) (fun w os => by kernel_rfl) w
theorem z0 (w : World) : ∀ os, runQ TB PQ w 11 ann6 1 200 (St0 PQ 256 w os) (T0 w os) = some (.next, E_0 PQ w os, codeH PQ, P_0) :=
  byRow2 "special-get-raises" (P := fun w => ∀ os, runQ TB PQ w 11 ann6 1 200 (St0 PQ 256 w os) (T0 w os) = some (.next, E_0 PQ w os, codeH PQ, P_0)) (fun w os => by kernel_rfl) (fun w os => by kernel_rfl) w
theorem z0f (w : World) : ∀ os, runQ TB PQ w 11 ann6 1 190 (St0 PQ 256 w os) (T0 w os) = some (.next, E_0 PQ w os, codeH PQ, P_0) :=
  byRow2 "special-get-raises" (P := fun w => ∀ os, runQ TB PQ w 11 ann6 1 190 (St0 PQ 256 w os) (T0 w os) = some (.next, E_0 PQ w os, codeH PQ, P_0)) (fun w os => by kernel_rfl) (fun w os => by kernel_rfl) w
theorem g7 (w : World) : ∀ os, runQ TB PQ w 11 ann6 1 200 (E_0 PQ w os) (thr PQ execsQ (sl PQ 1 8) P_0) = some (.next, E_7 PQ w os, codeH PQ, P_7) :=
  byRow2 "special-get-raises" (P := fun w => ∀ os, runQ TB PQ w 11 ann6 1 200 (E_0 PQ w os) (thr PQ execsQ (sl PQ 1 8) P_0) = some (.next, E_7 PQ w os, codeH PQ, P_7)) (fun w os => by kernel_rfl) (fun w os => by kernel_rfl) w
theorem a8 (w : World) : ∀ os, goQ TB PQ w 11 ann6 1 88 (E_7 PQ w os) th8 = some (St8 PQ 1 w os, T8 w os) :=
  byRow2 "special-get-raises" (P := fun w => ∀ os, goQ TB PQ w 11 ann6 1 88 (E_7 PQ w os) th8 = some (St8 PQ 1 w os, T8 w os)) (fun w os => by kernel_rfl) (fun w os => by kernel_rfl) w
theorem c8_0 (w : World) : ∀ os, goQ TB PQ w 11 ann6 1 990 (St8 PQ 1 w os) (T8 w os) = some (St8 PQ 23 w os, T8 w os) :=
  byRow2 "special-get-raises" (P := fun w => ∀ os, goQ TB PQ w 11 ann6 1 990 (St8 PQ 1 w os) (T8 w os) = some (St8 PQ 23 w os, T8 w os)) (fun w os => by kernel_rfl) (fun w os => by kernel_rfl) w
theorem c8_1 (w : World) : ∀ os, goQ TB PQ w 11 ann6 1 990 (St8 PQ 23 w os) (T8 w os) = some (St8 PQ 45 w os, T8 w os) :=
  byRow2 "special-get-raises" (P := fun w => ∀ os, goQ TB PQ w 11 ann6 1 990 (St8 PQ 23 w os) (T8 w os) = some (St8 PQ 45 w os, T8 w os)) (fun w os => by kernel_rfl) (fun w os => by kernel_rfl) w
theorem c8_2 (w : World) : ∀ os, goQ TB PQ w 11 ann6 1 990 (St8 PQ 45 w os) (T8 w os) = some (St8 PQ 67 w os, T8 w os) :=
  byRow2 "special-get-raises" (P := fun w => ∀ os, goQ TB PQ w 11 ann6 1 990 (St8 PQ 45 w os) (T8 w os) = some (St8 PQ 67 w os, T8 w os)) (fun w os => by kernel_rfl) (fun w os => by kernel_rfl) w
theorem z8 (w : World) : ∀ os, runQ TB PQ w 11 ann6 1 200 (St8 PQ 67 w os) (T8 w os) = some (.next, E_8 PQ w os, codeH PQ, P_8) :=
  byRow2 "special-get-raises" (P := fun w => ∀ os, runQ TB PQ w 11 ann6 1 200 (St8 PQ 67 w os) (T8 w os) = some (.next, E_8 PQ w os, codeH PQ, P_8)) (fun w os => by kernel_rfl) (fun w os => by kernel_rfl) w
theorem g9 (w : World) : ∀ os, runQ TB PQ w 11 ann6 1 100 (E_8 PQ w os) (thr PQ execsQ (sl PQ 9 10) P_8) = some (.next, E_9 PQ w os, codeH PQ, P_9) :=
  byRow2 "special-get-raises" (P := fun w => ∀ os, runQ TB PQ w 11 ann6 1 100 (E_8 PQ w os) (thr PQ execsQ (sl PQ 9 10) P_8) = some (.next, E_9 PQ w os, codeH PQ, P_9)) (fun w os => by kernel_rfl) (fun w os => by kernel_rfl) w
theorem a10 (w : World) : ∀ os, goQ TB PQ w 11 ann6 1 54 (E_9 PQ w os) th10 = some (St10 PQ 1 w os, T10 w os) :=
  byRow2 "special-get-raises" (P := fun w => ∀ os, goQ TB PQ w 11 ann6 1 54 (E_9 PQ w os) th10 = some (St10 PQ 1 w os, T10 w os)) (fun w os => by kernel_rfl) (fun w os => by kernel_rfl) w
theorem c10_0 (w : World) : ∀ os, goQ TB PQ w 11 ann6 1 1080 (St10 PQ 1 w os) (T10 w os) = some (St10 PQ 25 w os, T10 w os) :=
  byRow2 "special-get-raises" (P := fun w => ∀ os, goQ TB PQ w 11 ann6 1 1080 (St10 PQ 1 w os) (T10 w os) = some (St10 PQ 25 w os, T10 w os)) (fun w os => by kernel_rfl) (fun w os => by kernel_rfl) w
theorem c10_1 (w : World) : ∀ os, goQ TB PQ w 11 ann6 1 1080 (St10 PQ 25 w os) (T10 w os) = some (St10 PQ 49 w os, T10 w os) :=
  byRow2 "special-get-raises" (P := fun w => ∀ os, goQ TB PQ w 11 ann6 1 1080 (St10 PQ 25 w os) (T10 w os) = some (St10 PQ 49 w os, T10 w os)) (fun w os => by kernel_rfl) (fun w os => by kernel_rfl) w
theorem c10_2 (w : World) : ∀ os, goQ TB PQ w 11 ann6 1 1080 (St10 PQ 49 w os) (T10 w os) = some (St10 PQ 73 w os, T10 w os) :=
  byRow2 "special-get-raises" (P := fun w => ∀ os, goQ TB PQ w 11 ann6 1 1080 (St10 PQ 49 w os) (T10 w os) = some (St10 PQ 73 w os, T10 w os)) (fun w os => by kernel_rfl) (fun w os => by kernel_rfl) w
theorem c10_3 (w : World) : ∀ os, goQ TB PQ w 11 ann6 1 990 (St10 PQ 73 w os) (T10 w os) = some (St10 PQ 95 w os, T10 w os) :=
  byRow2 "special-get-raises" (P := fun w => ∀ os, goQ TB PQ w 11 ann6 1 990 (St10 PQ 73 w os) (T10 w os) = some (St10 PQ 95 w os, T10 w os)) (fun w os => by kernel_rfl) (fun w os => by kernel_rfl) w
theorem z10 (w : World) : ∀ os, runQ TB PQ w 11 ann6 1 200 (St10 PQ 95 w os) (T10 w os) = some (.next, E_10 PQ w os, codeH PQ, P_10) :=
  byRow2 "special-get-raises" (P := fun w => ∀ os, runQ TB PQ w 11 ann6 1 200 (St10 PQ 95 w os) (T10 w os) = some (.next, E_10 PQ w os, codeH PQ, P_10)) (fun w os => by kernel_rfl) (fun w os => by kernel_rfl) w
theorem g17 (w : World) : ∀ os, runQ TB PQ w 11 ann6 1 400 (E_10 PQ w os) (thr PQ execsQ (sl PQ 11 18) P_10) = some (.next, E_17 PQ w os, codeH PQ, P_17) :=
  byRow2 "special-get-raises" (P := fun w => ∀ os, runQ TB PQ w 11 ann6 1 400 (E_10 PQ w os) (thr PQ execsQ (sl PQ 11 18) P_10) = some (.next, E_17 PQ w os, codeH PQ, P_17)) (fun w os => by kernel_rfl) (fun w os => by kernel_rfl) w
end
end Mine
end

section
open PySem PySem.W PyProof.Rows
set_option maxRecDepth 100000
set_option maxHeartbeats 8000000
namespace Mine
theorem go_of {p : Program} {w : World} {n : Nat} {s s' : SharedT} {t t' : Thread} (h : goQ TB p w 11 ann6 1 n s t = some (s', t')) : segGo TB p w 11 ann6 1 n s.abs t = some (s'.abs, t') := by
  have h : segGoT TB p w 11 ann6 1 n s t = some (s', t') := by rw [PySem.W.Fast.te10295753902157049106]; exact h
  exact segGo_of h
theorem run_of {p : Program} {w : World} {n : Nat} {s s' : SharedT} {t : Thread} {f : Flow} {c : Code} {o : Pos} (h : runQ TB p w 11 ann6 1 n s t = some (f, s', c, o)) : segRun TB p w 11 ann6 1 n s.abs t = some (f, s'.abs, c, o) := by
  have h : segRunT TB p w 11 ann6 1 n s t = some (f, s', c, o) := by rw [PySem.W.Fast.te10110043849684766642]; exact h
  exact segRun_of h
/-- a piece in the library's own words -/
theorem own_words {w : World} {os : OsState} {n a b : Nat} {pos o : Pos} {E1 E2 : Program → World → OsState → SharedT}
    (h : segRun TB PQ w 11 ann6 1 n (E1 PQ w os).abs (thr PQ execsQ (sl PQ a b) pos) = some (.next, (E2 PQ w os).abs, codeH PQ, o)) :
    segRun treeTable PySem.Challenge.pw_io0058_01 w 11 ann6 1 n (E1 PySem.Challenge.pw_io0058_01 w os).abs (piecesOf (sl PySem.Challenge.pw_io0058_01 a b) (envH PySem.Challenge.pw_io0058_01) (codeH PySem.Challenge.pw_io0058_01) pos [topFrame p0]) = some (.next, (E2 PySem.Challenge.pw_io0058_01 w os).abs, codeH PySem.Challenge.pw_io0058_01, o) := by
  show segRun treeTable PySem.Challenge.pw_io0058_01 w 11 ann6 1 n (E1 PySem.Challenge.pw_io0058_01 w os).abs (thr PySem.Challenge.pw_io0058_01 execs (sl PySem.Challenge.pw_io0058_01 a b) pos) = some (.next, (E2 PySem.Challenge.pw_io0058_01 w os).abs, codeH PySem.Challenge.pw_io0058_01, o)
  rw [PySem.W.Fast.te14364793385576792824, PySem.W.Fast.te13276805671724995306, PySem.W.Fast.te12563942051412417395]
  exact h
theorem twice_true (w : World) (os : OsState) : segRun TB PQ (twice w true) 11 ann6 1 9713 (E_pre PQ (twice w true) os).abs th0 = some (.next, (E_0 PQ (twice w true) os).abs, codeH PQ, P_0) :=
  (seg_go (go_of (a0_true w os)) (seg_go (go_of (c0_0 (twice w true) os)) (seg_go (go_of (c0_1 (twice w true) os)) (seg_go (go_of (c0_2 (twice w true) os)) (seg_go (go_of (c0_3 (twice w true) os)) (seg_go (go_of (c0_4 (twice w true) os)) (seg_go (go_of (c0_5 (twice w true) os)) (seg_go (go_of (c0_6 (twice w true) os)) (seg_go (go_of (c0_7 (twice w true) os)) (run_of (z0 (twice w true) os)))))))))))
theorem twice_false (w : World) (os : OsState) : segRun TB PQ (twice w false) 11 ann6 1 9713 (E_pre PQ (twice w false) os).abs th0 = some (.next, (E_0 PQ (twice w false) os).abs, codeH PQ, P_0) :=
  (seg_go (go_of (a0_false w os)) (seg_go (go_of (c0_0 (twice w false) os)) (seg_go (go_of (c0_1 (twice w false) os)) (seg_go (go_of (c0_2 (twice w false) os)) (seg_go (go_of (c0_3 (twice w false) os)) (seg_go (go_of (c0_4 (twice w false) os)) (seg_go (go_of (c0_5 (twice w false) os)) (seg_go (go_of (c0_6 (twice w false) os)) (seg_go (go_of (c0_7 (twice w false) os)) (run_of (z0f (twice w false) os)))))))))))
theorem r0 (w : World) : ∀ os, segRun TB PQ w 11 ann6 1 9713 (E_pre PQ w os).abs th0 = some (.next, (E_0 PQ w os).abs, codeH PQ, P_0) :=
  byRow2 "comprehension-iter-twice" (P := fun w => ∀ os, segRun TB PQ w 11 ann6 1 9713 (E_pre PQ w os).abs th0 = some (.next, (E_0 PQ w os).abs, codeH PQ, P_0))
    (fun w os => twice_false w os) (fun w os => twice_true w os) w
theorem r8 (w : World) (os : OsState) : segRun TB PQ w 11 ann6 1 3258 (E_7 PQ w os).abs th8 = some (.next, (E_8 PQ w os).abs, codeH PQ, P_8) :=
  (seg_go (go_of (a8 w os)) (seg_go (go_of (c8_0 w os)) (seg_go (go_of (c8_1 w os)) (seg_go (go_of (c8_2 w os)) (run_of (z8 w os))))))
theorem r10 (w : World) (os : OsState) : segRun TB PQ w 11 ann6 1 4484 (E_9 PQ w os).abs th10 = some (.next, (E_10 PQ w os).abs, codeH PQ, P_10) :=
  (seg_go (go_of (a10 w os)) (seg_go (go_of (c10_0 w os)) (seg_go (go_of (c10_1 w os)) (seg_go (go_of (c10_2 w os)) (seg_go (go_of (c10_3 w os)) (run_of (z10 w os)))))))
theorem pre_ok (w : World) (os : OsState) : topGo treeTable PySem.Challenge.pw_io0058_01 w 11 ann6 12 ⟨boot_heap w.params, Array.mk [], boot_drawn, boot_toks, os⟩ (topStub PySem.Challenge.pw_io0058_01) = some ((E_pre PySem.Challenge.pw_io0058_01 w os).abs, ⟨denote treeTable (codeH PySem.Challenge.pw_io0058_01), codeH PySem.Challenge.pw_io0058_01, p0, [topFrame p0]⟩) := by
  rw [PySem.W.Fast.te15667345088766844465, PySem.W.Fast.te14364793385576792824, PySem.W.Fast.te13276805671724995306, PySem.W.Fast.te11892475500146522536]
  kernel_rfl
theorem block_ok (w : World) (os : OsState) : segRun treeTable PySem.Challenge.pw_io0058_01 w 11 ann6 1 1 (E_pre PySem.Challenge.pw_io0058_01 w os).abs (blockOf (behindTheImports PySem.Challenge.pw_io0058_01) (envH PySem.Challenge.pw_io0058_01) (codeH PySem.Challenge.pw_io0058_01) p0 [topFrame p0]) = some (.next, (E_pre PySem.Challenge.pw_io0058_01 w os).abs, codeH PySem.Challenge.pw_io0058_01, p0) := by
  kernel_rfl
noncomputable def H1 (P : Params) : Heap := ⟨⟨objs_17 PySem.Challenge.pw_io0058_01 P⟩, {}⟩
theorem fin_ok (w : World) (os : OsState) : topRun treeTable PySem.Challenge.pw_io0058_01 w 11 ann6 2 (E_17 PySem.Challenge.pw_io0058_01 w os).abs ⟨doneF .next, codeH PySem.Challenge.pw_io0058_01, P_17, [topFrame p0]⟩ = some ⟨H1 w.params, Array.mk [], {}, 1759, os⟩ := by
  kernel_rfl
theorem body_is : behindTheImports PySem.Challenge.pw_io0058_01 = sl PySem.Challenge.pw_io0058_01 0 1 ++ (sl PySem.Challenge.pw_io0058_01 1 8 ++ (sl PySem.Challenge.pw_io0058_01 8 9 ++ (sl PySem.Challenge.pw_io0058_01 9 10 ++ (sl PySem.Challenge.pw_io0058_01 10 11 ++ (sl PySem.Challenge.pw_io0058_01 11 18 ++ []))))) := by kernel_rfl
theorem run_all (w : World) (os : OsState) : topRun treeTable PySem.Challenge.pw_io0058_01 w 11 ann6 (12 + (1 + (9713 + (200 + (3258 + (100 + (4484 + (400 + 2)))))))) ⟨boot_heap w.params, Array.mk [], boot_drawn, boot_toks, os⟩ (topStub PySem.Challenge.pw_io0058_01) = some ⟨H1 w.params, Array.mk [], {}, 1759, os⟩ := by
  refine go_top (pre_ok w os) (piece_block (block_ok w os) ?_)
  rw [body_is]
  refine piece_app (own_words (r0 w os)) ?_
  refine piece_app (own_words (run_of (g7 w os))) ?_
  refine piece_app (own_words (r8 w os)) ?_
  refine piece_app (own_words (run_of (g9 w os))) ?_
  refine piece_app (own_words (r10 w os)) ?_
  refine piece_app (own_words (run_of (g17 w os))) ?_
  exact piece_nil (fin_ok w os)
end Mine
end

section
open PySem PySem.W PyProof.Rows
set_option maxRecDepth 100000
set_option maxHeartbeats 8000000
namespace Mine
noncomputable def vw : Program := by
  refine' (fun (x : Program) (_ : x = { PySem.Challenge.pw_io0058_01 with main := { PySem.Challenge.pw_io0058_01.main with body := [nthS PySem.Challenge.pw_io0058_01.main.body 16, nthS PySem.Challenge.pw_io0058_01.main.body 17] } }) => x) _ ?h
  case h => (dsimp only [PySem.Challenge.pw_io0058_01, nthS]; exact rfl)
noncomputable def l3 : Params → Obj := by
  intro P
  refine' (fun (x : Obj) (_ : x = o3_17 PySem.Challenge.pw_io0058_01 P) => x) _ ?h
  case h => (dsimp only [PySem.Challenge.pw_io0058_01, nthS, o3_17, fnArgs, fnBody, fnScope]; exact rfl)
noncomputable def l22 : Params → Obj := by
  intro P
  refine' (fun (x : Obj) (_ : x = o22_9 PySem.Challenge.pw_io0058_01 P) => x) _ ?h
  case h => (dsimp only [PySem.Challenge.pw_io0058_01, nthS, o22_9, fnArgs, fnBody, fnScope]; exact rfl)
noncomputable def l31 : Params → Obj := by
  intro P
  refine' (fun (x : Obj) (_ : x = o31_11 PySem.Challenge.pw_io0058_01 P) => x) _ ?h
  case h => (dsimp only [PySem.Challenge.pw_io0058_01, nthS, o31_11, fnArgs, fnBody, fnScope]; exact rfl)
noncomputable def l32 : Params → Obj := by
  intro P
  refine' (fun (x : Obj) (_ : x = o32_11 PySem.Challenge.pw_io0058_01 P) => x) _ ?h
  case h => (dsimp only [PySem.Challenge.pw_io0058_01, nthS, o32_11, fnArgs, fnBody, fnScope]; exact rfl)
noncomputable def l34 : Params → Obj := by
  intro P
  refine' (fun (x : Obj) (_ : x = o34_11 PySem.Challenge.pw_io0058_01 P) => x) _ ?h
  case h => (dsimp only [PySem.Challenge.pw_io0058_01, nthS, o34_11, fnArgs, fnBody, fnScope]; exact rfl)
noncomputable def l35 : Params → Obj := by
  intro P
  refine' (fun (x : Obj) (_ : x = o35_11 PySem.Challenge.pw_io0058_01 P) => x) _ ?h
  case h => (dsimp only [PySem.Challenge.pw_io0058_01, nthS, o35_11, fnArgs, fnBody, fnScope]; exact rfl)
noncomputable def l37 : Params → Obj := by
  intro P
  refine' (fun (x : Obj) (_ : x = o37_11 PySem.Challenge.pw_io0058_01 P) => x) _ ?h
  case h => (dsimp only [PySem.Challenge.pw_io0058_01, nthS, o37_11, fnArgs, fnBody, fnScope]; exact rfl)
noncomputable def l38 : Params → Obj := by
  intro P
  refine' (fun (x : Obj) (_ : x = o38_11 PySem.Challenge.pw_io0058_01 P) => x) _ ?h
  case h => (dsimp only [PySem.Challenge.pw_io0058_01, nthS, o38_11, fnArgs, fnBody, fnScope]; exact rfl)
noncomputable def l44 : Params → Obj := by
  intro P
  refine' (fun (x : Obj) (_ : x = o44_16 PySem.Challenge.pw_io0058_01 P) => x) _ ?h
  case h => (dsimp only [PySem.Challenge.pw_io0058_01, nthS, o44_16, fnArgs, fnBody, fnScope]; exact rfl)
noncomputable def l46 : Params → Obj := by
  intro P
  refine' (fun (x : Obj) (_ : x = o46_16 PySem.Challenge.pw_io0058_01 P) => x) _ ?h
  case h => (dsimp only [PySem.Challenge.pw_io0058_01, nthS, o46_16, fnArgs, fnBody, fnScope]; exact rfl)
noncomputable def l47 : Params → Obj := by
  intro P
  refine' (fun (x : Obj) (_ : x = o47_16 PySem.Challenge.pw_io0058_01 P) => x) _ ?h
  case h => (dsimp only [PySem.Challenge.pw_io0058_01, nthS, o47_16, fnArgs, fnBody, fnScope]; exact rfl)
noncomputable def l49 : Params → Obj := by
  intro P
  refine' (fun (x : Obj) (_ : x = o49_16 PySem.Challenge.pw_io0058_01 P) => x) _ ?h
  case h => (dsimp only [PySem.Challenge.pw_io0058_01, nthS, o49_16, fnArgs, fnBody, fnScope]; exact rfl)
noncomputable def l50 : Params → Obj := by
  intro P
  refine' (fun (x : Obj) (_ : x = o50_16 PySem.Challenge.pw_io0058_01 P) => x) _ ?h
  case h => (dsimp only [PySem.Challenge.pw_io0058_01, nthS, o50_16, fnArgs, fnBody, fnScope]; exact rfl)
noncomputable def l51 : Params → Obj := by
  intro P
  refine' (fun (x : Obj) (_ : x = o51_17 PySem.Challenge.pw_io0058_01 P) => x) _ ?h
  case h => (dsimp only [PySem.Challenge.pw_io0058_01, nthS, o51_17, fnArgs, fnBody, fnScope]; exact rfl)
noncomputable def l54 : Params → Obj := by
  intro P
  refine' (fun (x : Obj) (_ : x = o54_17 PySem.Challenge.pw_io0058_01 P) => x) _ ?h
  case h => (dsimp only [PySem.Challenge.pw_io0058_01, nthS, o54_17, fnArgs, fnBody, fnScope]; exact rfl)
noncomputable def l55 : Params → Obj := by
  intro P
  refine' (fun (x : Obj) (_ : x = o55_17 PySem.Challenge.pw_io0058_01 P) => x) _ ?h
  case h => (dsimp only [PySem.Challenge.pw_io0058_01, nthS, o55_17, fnArgs, fnBody, fnScope]; exact rfl)
noncomputable def K39 : Params → Frag := fun P => [(nat_lit 2, boot_o_2 P), (nat_lit 3, l3 P), (nat_lit 6, boot_o_6 P), (nat_lit 22, l22 P), (nat_lit 31, l31 P), (nat_lit 32, l32 P), (nat_lit 34, l34 P), (nat_lit 35, l35 P), (nat_lit 37, l37 P), (nat_lit 38, l38 P), (nat_lit 44, l44 P), (nat_lit 46, l46 P), (nat_lit 47, l47 P), (nat_lit 49, l49 P), (nat_lit 50, l50 P), (nat_lit 51, l51 P), (nat_lit 54, l54 P), (nat_lit 55, l55 P)]
abbrev looseN : List Str := [Str.ofString "_QUOPRI_MAP", Str.ofString "_QUOPRI_HEADER_MAP", Str.ofString "_QUOPRI_BODY_MAP", Str.ofString "ascii_lowercase", Str.ofString "ascii_uppercase", Str.ofString "ascii_letters", Str.ofString "digits", Str.ofString "header_encode", Str.ofString "_QUOPRI_BODY_ENCODE_MAP"]
theorem as_ok : ∀ P, [2, 3, 6, 22, 31, 32, 34, 35, 37, 38, 44, 46, 47, 49, 50, 51, 54, 55] = (K39 P).map (·.1) := fun _ => by kernel_rfl
noncomputable abbrev HK : Hook := kHook K39 [2, 3, 6, 22, 31, 32, 34, 35, 37, 38, 44, 46, 47, 49, 50, 51, 54, 55] as_ok
theorem imp_ok (w : World) : (importEnds treeTable (opening PySem.Challenge.pw_io0058_01) w 600 (start (opening PySem.Challenge.pw_io0058_01)).1 (start (opening PySem.Challenge.pw_io0058_01)).2).map (fun s => (s.heap, s.gens, s.drawn, s.toks)) = some (boot_heap w.params, Array.mk [], boot_drawn, boot_toks) := by kernel_rfl
theorem fence_ok (s : Shared) : fenceModules? PySem.Challenge.pw_io0058_01 s = some s := by kernel_rfl
theorem open_ok (w : World) : (fencedOpening treeTable PySem.Challenge.pw_io0058_01 w 40000).map (fun s => (s.heap, s.gens, s.drawn, s.toks)) = some (boot_heap w.params, Array.mk [], boot_drawn, boot_toks) := by
  obtain ⟨s, hs, hv⟩ := Option.map_eq_some_iff.mp (imp_ok w)
  have m := importEnds_mono (40000 - 600) 600 _ _ _ hs
  have m : importEnds treeTable (opening PySem.Challenge.pw_io0058_01) w 40000 (start (opening PySem.Challenge.pw_io0058_01)).1 (start (opening PySem.Challenge.pw_io0058_01)).2 = some s := m
  unfold fencedOpening
  rw [m]
  show ((fenceModules? PySem.Challenge.pw_io0058_01 s)).map _ = _
  rw [fence_ok s]
  exact congrArg some hv
theorem size_ok (w : World) : ((boot_heap w.params).isNs mainGlobals && (Array.mk [] : Array GenState).size == 0, (boot_heap w.params).objs.size, (boot_heap w.params).nsMap mainGlobals "__annotations__") = (true, 11, ann6) := by kernel_rfl
theorem looks1 (w : World) (os : OsState) : (staticsOk (importedModules PySem.Challenge.pw_io0058_01.main.body) (boot_heap w.params) (H1 w.params) && namesBound PySem.Challenge.pw_io0058_01 (H1 w.params) && gensDone ⟨H1 w.params, Array.mk [], {}, 1759, os⟩ && laidKept (boot_heap w.params) (H1 w.params)) = true := by kernel_rfl
theorem looks3 (w : World) (os : OsState) : HK.obs ⟨H1 w.params, Array.mk [], {}, 1759, os⟩ = HK.val w := by kernel_rfl
theorem looks2 (w : World) (os : OsState) : openSeen vw looseN (importedModules PySem.Challenge.pw_io0058_01.main.body) (fun s => xlAt vw [] s && recOk (RowW.records PySem.Challenge.rw_io0058_01.row.toRowW) s) true ⟨H1 w.params, Array.mk [], {}, 1759, os⟩ = openGood vw looseN := by kernel_rfl
theorem left_ok : LeftO PySem.Challenge.pw_io0058_01 vw looseN (fun s => xlAt vw [] s && recOk (RowW.records PySem.Challenge.rw_io0058_01.row.toRowW) s) HK.obs HK.val 40000 :=
  LeftO.of_pieces open_ok size_ok run_all rfl fun w => funext fun os => Prod.ext (looks1 w os) (Prod.ext (looks2 w os) (looks3 w os))
/-- the head: what is left is the walk -/
theorem head {d : DefRec} {kwd : List (Str × PySem.Expr)} (h1 : defOf vw PySem.Challenge.rw_io0058_01.row.name = some (d, kwd)) (h2 : PySem.Challenge.rw_io0058_01.row.prog.theDef PySem.Challenge.rw_io0058_01.row.name = some (d.params, d.body, d.scope)) (h3 : kwWritten? d.params.kwonlyargs d.params.kw_defaults = some kwd)
    (walk : WalkO vw looseN (XL vw []) HK.says PySem.Challenge.rw_io0058_01.row.toRowW d kwd fun f vs => PySem.call f vs) : PySem.Challenge.rw_io0058_01.Holds := by
  o_law
  refine holds_open (q := vw) (loose := looseN) (Xt := fun s => xlAt vw [] s && recOk (RowW.records PySem.Challenge.rw_io0058_01.row.toRowW) s) (XP := XL vw []) (Yf := HK.obs) (Ya := HK.val) (YP := HK.says) (N := 40000) left_ok HK.of HK.keeps (fun s e => xl_of s (Bool.and_eq_true_iff.mp e).1) XL.keeps h1 h2 h3 (fun s e => recFacts_of (Bool.and_eq_true_iff.mp e).2) (by rfl) (by assumption) (by decide +kernel) ⟨rfl, rfl, rfl, rfl, rfl, by decide +kernel⟩ ?hw ?hc
  case hw => w_witness2
  case hc => exact walk
end Mine
end

section
open PySem PySem.W PyProof.Rows
set_option maxRecDepth 100000
set_option maxHeartbeats 8000000
namespace Mine
def strOf (l : List Nat) : Str := ⟨l.toArray⟩
def fateS (c r : Int) : Str :=
  if r = 0 then ⟨#[c.toNat]⟩
  else if (48 ≤ c ∧ c < 58) ∨ (65 ≤ c ∧ c < 91) ∨ (97 ≤ c ∧ c < 123) ∨ ([33, 42, 43, 45, 47].any fun x => x == c) = true then ⟨#[c.toNat]⟩
  else if c = 32 ∧ r = 1 then Str.ofString "_"
  else if c = 32 then Str.ofString "=" ++ Txt.mul (Str.ofString "3D") (r - 2) ++ Str.ofString "5F"
  else Str.ofString "=" ++ Txt.mul (Str.ofString "3D") (r - 1) ++ Txt.item (Str.ofString "0123456789ABCDEF") (c.fdiv 16) ++ Txt.item (Str.ofString "0123456789ABCDEF") (c.fmod 16)
theorem fateS_all : ((List.range 256).all fun c => (List.range 5).all fun r => (fateS (c : Int) (r : Int)).cps.toList == fateN c r) = true := by decide +kernel
theorem fateS_eq {c r : Int} (h1 : 0 ≤ c) (h2 : c < 256) (h3 : 0 ≤ r) (h4 : r ≤ 4) : fateS c r = strOf (fateN c.toNat r.toNat) := by
  have h := List.all_eq_true.mp (List.all_eq_true.mp fateS_all c.toNat (List.mem_range.mpr (by omega))) r.toNat (List.mem_range.mpr (by omega))
  rw [Int.toNat_of_nonneg h1, Int.toNat_of_nonneg h3] at h
  have h := eq_of_beq h
  have : (fateS c r) = ⟨(fateS c r).cps⟩ := rfl
  rw [this]
  unfold strOf
  rw [← h]

theorem fate_call (w : World) (p : Program) (loose : List Str) (mean : ExcName → Option Value) (mg mb : Str → Option Value) (news : List (Addr × Obj)) (c r : Int) (tc tr : Tok) :
  CbClaim PySem.Challenge.rw_io0058_01.row.prog w (K39 w.params) p loose mean mg mb 50 news [] (0 ≤ c ∧ c < 256 ∧ 0 ≤ r ∧ r ≤ 4) [.int c tc, .int r tr] (fun t => .str (strOf (fateN c.toNat r.toNat)) t) := by
  dsimp only [CbClaim, CbLists, CbRet]
  k_fill
  intros
  rename_i hpre _ _ hret
  obtain ⟨h1, h2, h3, h4⟩ := hpre
  rw [← fateS_eq h1 h2 h3 h4] at hret
  refine wpAny_call ?_
  k_dflt cell_enter
  k_steps
  all_goals (
    refine' cb_retS hret ?e1 ?e2 ?e3
    (case e2 => k_asm)
    (case e3 => first | k_asm | (refine' cb_drop ?cbN ?cbS; (case cbN => assumption); (case cbS => kcj_all)))
    (case e1 => (unfold fateS; (repeat' split) <;> first | rfl | omega | (simp_all; done) | (simp_all; omega))))
end Mine
end

section
open PySem PySem.W PyProof.Rows
set_option maxRecDepth 100000
set_option maxHeartbeats 8000000
namespace Mine
theorem tab_ok (P : Params) : tabOk ((K39 P).lookup 22) = true := by kernel_rfl
theorem tab_at (P : Params) : ∃ items n sl, (K39 P).lookup 22 = some ⟨.type "list", none, .seq items n, sl⟩ := ⟨_, _, _, rfl⟩
theorem tab_list {P : Params} {h : Heap} (X : (K39 P).In h) : ∃ items, h.IsList 22 items ∧ ∀ c < 256, ∃ x t, items[c]? = some (.str x t) ∧ x.cps.toList = enc1 c := by
  obtain ⟨items, n, sl, e⟩ := tab_at P
  refine ⟨items, ⟨_, X _ _ e, rfl, n, rfl⟩, fun c hc => tab_of (cl := .type "list") (d := none) (n := n) (sl := sl) ?_ hc⟩
  rw [← e]; exact tab_ok P
theorem my_translate {w : World} {A : Around} {E : Value → Shared → Prop} {s : Shared} {h₀ : Heap} {L : Addr} {m : Str → Option Value} {cs : List Nat} {t : Tok} {Q : Value → Shared → Prop} (F : Fr h₀ L s.heap m) (X : (K39 w.params).In h₀)
    (hne : cs ≠ []) (hlt : ∀ c ∈ cs, c < 256) (hsz : (cs.flatMap enc1).length ≤ 16777216) (h : ∀ t' k, Q (.str ⟨(cs.flatMap enc1).toArray⟩ t') { s with toks := k }) :
    wpAny (model PySem.Challenge.rw_io0058_01.row.prog w) A (call (.builtin "str.translate") [.str ⟨cs.toArray⟩ t, .ref 22]) Q E s := by
  obtain ⟨items, hl, ht⟩ := tab_list (X.keeps F.keep)
  exact call_translate hl hne (fun c hc => ht c (hlt c hc)) hlt hsz h
theorem meth_translate {M : Model} {A : Around} {E : Value → Shared → Prop} {s : Shared} {x : Str} {t : Tok} {pl : Sem Bool} {Q : Value × List Value → Shared → Prop} (h : Q (.builtin "str.translate", [.str x t]) s) : wpAny M A (getMethod (.str x t) "translate" pl) Q E s := by
  with_reducible exact GM.of (.str x t) (typeIs_str _ _ _) F.slot_str_translate F.type_str_translate GM.noRef h
theorem len_mk (l : List Nat) : (⟨l.toArray⟩ : Str).length = l.length := by simp [Str.length]
theorem len_l1 : (Str.ofString "=?").length = 2 := by decide
theorem len_l2 : (Str.ofString "?q?").length = 3 := by decide
theorem len_l3 : (Str.ofString "?=").length = 2 := by decide
theorem len_l0 : Str.empty.length = 0 := by decide
local macro_rules | `(tactic| walk_at "And") => `(tactic| ((with_reducible show PySem.Str.length _ ≤ sizeLine ∧ _); refine ⟨by (simp only [Str.length_append, len_mk, len_l0, len_l1, len_l2, len_l3, sizeLine_eq]; omega), ?_⟩))
local macro_rules | `(tactic| walk_at "getMethod str") => `(tactic| (k_here; (with_reducible refine meth_translate ?_)))
local macro_rules | `(tactic| walk_at "call builtin:bytes.decode") => `(tactic| (k_here; (refine decode_latin1 ?_ ?_); omega; intro _ _))
local macro_rules | `(tactic| walk_at "call builtin:str.translate") => `(tactic| (k_here; (refine' my_translate ?k1 ?k2 ?k3 ?k4 ?k5 ?_; (case k1 => k_asm); (case k2 => k_asm); (case k3 => simp); (case k4 => assumption); (case k5 => omega)); intro _ _))
theorem str_ext {a b : Str} (h : a.cps.toList = b.cps.toList) : a = b := by
  cases a; cases b
  exact congrArg Str.mk (Array.toList_inj.mp h)
theorem cps_app (a b : Str) : (a ++ b).cps.toList = a.cps.toList ++ b.cps.toList := by
  show (a.cps ++ b.cps).toList = _
  rw [Array.toList_append]
theorem glue_eq (nm T : List Nat) : Str.empty ++ Str.ofString "=?" ++ strOf nm ++ Str.ofString "?q?" ++ (⟨T.toArray⟩ : Str) ++ Str.ofString "?=" = strOf ([61, 63] ++ nm ++ [63, 113, 63] ++ T ++ [63, 61]) := by
  apply str_ext
  simp only [cps_app]
  have e0 : Str.empty.cps.toList = [] := by decide
  have e1 : (Str.ofString "=?").cps.toList = [61, 63] := by decide
  have e2 : (Str.ofString "?q?").cps.toList = [63, 113, 63] := by decide
  have e3 : (Str.ofString "?=").cps.toList = [63, 61] := by decide
  rw [e0, e1, e2, e3]
  simp [strOf]
theorem henc_call (w : World) (p : Program) (loose : List Str) (mean : ExcName → Option Value) (mg mb : Str → Option Value) (news : List (Addr × Obj)) (b : List UInt8) (nm : List Nat) (tc tr : Tok) :
  CbClaim PySem.Challenge.rw_io0058_01.row.prog w (K39 w.params) p loose mean mg mb 38 news [] (b.length ≤ 100000 ∧ nm.length ≤ 100) [.bytes b.toArray tc, .str (strOf nm) tr] (fun t => .str (strOf (encR nm (b.map UInt8.toNat))) t) := by
  dsimp only [CbClaim, CbLists, CbRet]
  k_fill
  intros
  rename_i hpre _ _ hret
  obtain ⟨h1, h2⟩ := hpre
  have h2' : (strOf nm).length ≤ 100 := by unfold strOf; rw [len_mk]; exact h2
  refine wpAny_call ?_
  k_dflt (refine' code_def ?k1 ?k2 ?k3 ?k4 ?k5 ?kA ?kF ?kK ?k6 ?k7 ?k8 ?k9 ?kB ?_ ?c2 ?c3 ?c4 ?c5; (case kA => exact rfl); (case kF => exact rfl); (case kK => assumption); (case k1 => k_asm); (case k2 => k_asm); (case k3 => k_asm); (case k4 => k_asm); (case k5 => k_asm); (case k6 => k_is); (case k7 => k_is); (case k8 => ktr_room); (case k9 => exact binds_K (by k_in) rfl (by k_is) rfl rfl rfl); (case c5 => decide); (case kB => exact locs rfl); (case c2 => exact rfl); (case c3 => exact rfl); (case c4 => exact rfl); k_whole; intro g' L' h' FG' F' N' B' X' T'; (try dsimp only); (try k_lift B'); (try k_fold))
  cases b with
  | nil => 
    k_steps
    all_goals (
      refine' cb_retS hret ?e1 ?e2 ?e3
      (case e2 => k_asm)
      (case e3 => first | k_asm | (refine' cb_drop ?cbN ?cbS; (case cbN => assumption); (case cbS => kcj_all)))
      (case e1 => rfl))
  | cons b0 bs =>
    have h0 : ((b0 :: bs).toArray.size : Int) ≠ 0 := by simp; omega
    have h3 : (((b0 :: bs).map UInt8.toNat).flatMap enc1).length ≤ 300000 := by
      have := flatMap_enc1_len ((b0 :: bs).map UInt8.toNat)
      rw [List.length_map] at this
      omega
    have h4 : ∀ c ∈ (b0 :: bs).map UInt8.toNat, c < 256 := by
      intro c hc
      obtain ⟨d, _, rfl⟩ := List.mem_map.mp hc
      exact UInt8.toNat_lt d
    k_steps
    all_goals (try (exfalso; omega))
    all_goals (
      refine' cb_retS hret ?e1 ?e2 ?e3
      (case e2 => k_asm)
      (case e3 => first | k_asm | (refine' cb_drop ?cbN ?cbS; (case cbN => assumption); (case cbS => kcj_all)))
      (case e1 => (rw [glue_eq]; rfl)))
end Mine
end

section
open PySem PySem.W PyProof.Rows PySem.Spec PySem.Calls
set_option maxRecDepth 100000
set_option maxHeartbeats 4000000
namespace Mine

theorem strs_snoc {y : Str} {t : Tok} : ∀ {vs : List Value} {ys : List Str}, StrsAre vs ys → StrsAre (vs ++ [.str y t]) (ys ++ [y])
  | _, _, .nil => .cons y t .nil
  | _, _, .cons z u r => .cons z u (strs_snoc r)

section
variable {prog : Program} {w : World} {A : Around} {E : Value → Shared → Prop} {h₀ : Heap} {L : Addr} {m : Str → Option Value} {env : Env} {elt : Expr} {x : Str} {scope : Scope} {cl : List (Str × Addr)}

/-- what the element's walk hands back: one text, the ledger as it stood -/
def ElRet (h₀ : Heap) (L : Addr) (m : Str → Option Value) (news : List (Addr × Obj)) (s : Shared) (x : List Nat) (v : Value) (s₂ : Shared) : Prop :=
  ∃ t h' tk', v = .str (strOf x) t ∧ s₂ = { s with heap := h', toks := tk' } ∧ Fr h₀ L h' m ∧ News h₀ L h' news
theorem ElRet.mk {news news' : List (Addr × Obj)} {s : Shared} {x y : List Nat} {t : Tok} {h' : Heap} {tk' : Nat} (e : y = x) (F : Fr h₀ L h' m) (N : News h₀ L h' news') (sub : ∀ p ∈ news, p ∈ news') :
    ElRet h₀ L m news s x (.str (strOf y) t) { s with heap := h', toks := tk' } := ⟨t, h', tk', by rw [e], rfl, F, fun p hp => N p (sub p hp)⟩

theorem rest_strs {s : Shared} {S : List (Addr × Obj) → Prop} {P : Nat → Value → Prop} {Fin : List Value → List (Addr × Obj) → Prop} {news : List (Addr × Obj)} {n : Nat} {ks : List Int} (g : Int → List Nat) (hks : ks.length = n)
    (hP : ∀ i v, i < n → P i v → ∃ k t, ks[i]? = some k ∧ v = .int k t) (hS : S news)
    (turn : ∀ k t I oI C oC D m₂ ys h tk (E' : Value → Shared → Prop), k ∈ ks → LCg.NsObj oC m₂ → m₂ x = some (.int k t) → Fr h₀ L h m → News h₀ L h ((I, oI) :: (C, oC) :: (D, LCg.lst ys) :: news) →
      wpAny (model prog w) A (eval elt (compEnvC scope cl C env)) (ElRet h₀ L m ((I, oI) :: (C, oC) :: (D, LCg.lst ys) :: news) { s with heap := h, toks := tk } (g k)) E' { s with heap := h, toks := tk })
    (fin : ∀ ys, StrsAre ys (ks.map fun k => strOf (g k)) → Fin ys news) : LCg.CompRest prog w A h₀ L m env elt x scope cl s S P Fin n 0 [] news := by
  have key : ∀ (j i : Nat) (ys : List Value), i + j = n → StrsAre ys ((ks.take i).map fun k => strOf (g k)) → LCg.CompRest prog w A h₀ L m env elt x scope cl s S P Fin j i ys news := by
    intro j
    induction j with
    | zero =>
      intro i ys hi hy
      have e : i = ks.length := by omega
      subst e
      rw [List.take_length] at hy
      exact LCg.CompRest.zero (fin ys hy)
    | succ j ih =>
      intro i ys hi hy
      refine LCg.CompRest.succ ?_
      intro v I oI C oC D m₂ h tk E' hv hC hx F N off ne
      obtain ⟨k, t, hk, rfl⟩ := hP i v (by omega) hv
      refine wpAny_mono (turn k t I oI C oC D m₂ ys h tk E' (List.mem_of_getElem? hk) hC hx F N) (fun y s₂ hq => ?_) fun _ _ e => e
      obtain ⟨t', h', tk', rfl, e, F', N'⟩ := hq
      refine ⟨h', tk', news, e, F', N', off, hS, ih (i + 1) _ (by omega) ?_⟩
      rw [List.take_add_one, hk]
      simpa using strs_snoc hy
  exact key n 0 [] (by omega) (by simp only [List.take_zero, List.map_nil]; exact .nil)

theorem src_strs {Fin : Shared → List Value → List (Addr × Obj) → Prop} {ax : Addr} {vs : List Value} {ks : List Int} {kk : Nat} {news : List (Addr × Obj)} {s₁ : Shared} (g : Int → List Nat)
    (hh : A.handled = none) (F : Fr h₀ L s₁.heap m) (N : News h₀ L s₁.heap news) (hm : (ax, ({ cls := .type "list", data := .seq vs.toArray kk } : Obj)) ∈ news) (hi : IntsAre vs ks) (hsz : ks.length ≤ 16777216)
    (turn : ∀ gh k t I oI C oC D m₂ ys h tk (E' : Value → Shared → Prop), k ∈ ks → LCg.NsObj oC m₂ → m₂ x = some (.int k t) → Fr h₀ L h m → News h₀ L h ((I, oI) :: (C, oC) :: (D, LCg.lst ys) :: news) →
      wpAny (model prog w) A (eval elt (compEnvC scope cl C env)) (ElRet h₀ L m ((I, oI) :: (C, oC) :: (D, LCg.lst ys) :: news) { s₁ with heap := h, toks := tk } (g k)) E' { ({ s₁ with heap := gh } : Shared) with heap := h, toks := tk })
    (fin : ∀ gh ys, StrsAre ys (ks.map fun k => strOf (g k)) → Fin { s₁ with heap := gh } ys news) : LCg.CompSrc prog w A h₀ L m env elt x scope cl Fin (.ref ax) s₁ := by
  refine LCg.CompSrc.ledger (its := vs.toArray) hh F N hm (by rw [List.size_toArray, hi.length, sizeLine_eq]; exact hsz) fun gh => ?_
  refine rest_strs (ks := ks) g (by rw [List.size_toArray]; exact hi.length.symm) (fun i v _ hv => ?_) (.inr ⟨_, hm, rfl, kk, rfl⟩) (fun k t I oI C oC D m₂ ys h tk E' hk hC hx F N => turn gh k t I oI C oC D m₂ ys h tk E' hk hC hx F N) (fin gh)
  obtain ⟨k, t, e, hk⟩ := IntsAre.at hi i v (by simpa using hv)
  exact ⟨k, t, hk, e⟩
end

theorem foldl_glue (r : List (List Nat)) : ∀ acc : Array Nat, ((r.map strOf).foldl (fun acc p => acc ++ (Str.ofString "").cps ++ p.cps) acc).toList = acc.toList ++ r.flatten := by
  have e : (Str.ofString "").cps.toList = [] := by decide
  induction r with
  | nil => intro acc; simp
  | cons x r ih => intro acc; rw [List.map_cons, List.foldl_cons, ih, Array.toList_append, Array.toList_append, e, List.flatten_cons]; simp [strOf]
theorem join_eq (ls : List (List Nat)) : Txt.join (Str.ofString "") (ls.map strOf) = strOf ls.flatten := by
  cases ls with
  | nil => rfl
  | cons l r =>
    show (⟨_⟩ : Str) = ⟨_⟩
    congr 1
    apply Array.toList_inj.mp
    show (List.foldl _ (strOf l).cps ((r.map strOf))).toList = _
    rw [foldl_glue]; simp [strOf]

/-- join of a list of texts -/
theorem join_strs {prog : Program} {w : World} {A : Around} {E : Value → Shared → Prop} {s : Shared} {D : Addr} {vs : List Value} {ls : List (List Nat)} {t : Tok} {Q : Value → Shared → Prop}
    (hl : s.heap.IsList D vs.toArray) (hi : StrsAre vs (ls.map strOf)) (hsz : ls.flatten.length ≤ 16777216) (h : ∀ t' k, Q (.str (strOf ls.flatten) t') { s with toks := k }) :
    wpAny (model prog w) A (call (.builtin "str.join") [.str (Str.ofString "") t, .ref D]) Q E s := by
  have hlen : ∀ l : List Nat, (strOf l).length = l.length := fun l => by simp [strOf, Str.length]
  have e1 : ((ls.map strOf).map (·.length)).sum = ls.flatten.length := by
    rw [List.map_map, List.length_flatten]
    congr 1
  have e2 : (Str.ofString "").length = 0 := by decide
  refine join_list (x := Str.ofString "") (t := t) (ys := ls.map strOf) hl (by simpa using hi) (by rw [e1, e2]; omega) fun t' k => ?_
  rw [join_eq]; exact h t' k

section
variable {prog : Program} {w : World} {A : Around} {E : Value → Shared → Prop} {s : Shared} {h₀ : Heap} {L : Addr} {m : Str → Option Value} {env : Env} {elt : Expr} {x : Str} {scope : Scope} {cl : List (Str × Addr)}
theorem rest_gen {S : List (Addr × Obj) → Prop} {P : Nat → Value → Prop} {Fin : List Value → List (Addr × Obj) → Prop} {news : List (Addr × Obj)} {n : Nat} (Y : Nat → List Value → Prop) (h0 : Y 0 []) (hS : S news)
    (turn : ∀ i v ys I oI C oC D m₂ h tk (E' : Value → Shared → Prop), i < n → P i v → Y i ys → LCg.NsObj oC m₂ → m₂ x = some v → Fr h₀ L h m → News h₀ L h ((I, oI) :: (C, oC) :: (D, LCg.lst ys) :: news) →
      wpAny (model prog w) A (eval elt (compEnvC scope cl C env)) (fun y s₂ => ∃ h' tk', s₂ = { s with heap := h', toks := tk' } ∧ Fr h₀ L h' m ∧ News h₀ L h' ((I, oI) :: (C, oC) :: (D, LCg.lst ys) :: news) ∧ Y (i + 1) (ys ++ [y])) E' { s with heap := h, toks := tk })
    (fin : ∀ ys, Y n ys → Fin ys news) : LCg.CompRest prog w A h₀ L m env elt x scope cl s S P Fin n 0 [] news := by
  have key : ∀ (j i : Nat) (ys : List Value), i + j = n → Y i ys → LCg.CompRest prog w A h₀ L m env elt x scope cl s S P Fin j i ys news := by
    intro j
    induction j with
    | zero =>
      intro i ys hi hy
      have e : i = n := by omega
      subst e
      exact LCg.CompRest.zero (fin ys hy)
    | succ j ih =>
      intro i ys hi hy
      refine LCg.CompRest.succ ?_
      intro v I oI C oC D m₂ h tk E' hv hC hx F N off ne
      refine wpAny_mono (turn i v ys I oI C oC D m₂ h tk E' (by omega) hv hy hC hx F N) (fun y s₂ hq => ?_) fun _ _ e => e
      obtain ⟨h', tk', e, F', N', hy'⟩ := hq
      exact ⟨h', tk', news, e, F', N', off, hS, ih (i + 1) _ (by omega) hy'⟩
  exact key n 0 [] (by omega) h0

theorem str_st {I : Addr} {ty : String} {y : Str} {t : Tok} : ∀ i (h h' : Heap) (o : Obj) (nw : List (Addr × Obj)), h.IsStrIter I ty y t i → h.get? I = some o → h'.get? I = some o → (∀ b o, h₀.get? b = some o → h'.get? b = some o) → News h₀ L h' nw → True → h'.IsStrIter I ty y t i :=
  fun i h h' o nw st e e' _ _ _ => by obtain ⟨o', q, r⟩ := st; rw [e] at q; cases q; exact ⟨o, e', r⟩

/-- a list comprehension over a text -/
theorem ListComp_str {elt iter : Expr} {x : Str} {px : Pos} {pos : Pos} {Q : Value → Shared → Prop} (F₀ : Fr h₀ L s.heap m)
    (hclos : closureFor scope env = pure cl) (hcell : ∀ y ∈ scope.names, y.2 ≠ .cell) (hkind : scope.kind = .function)
    (hnames : ∀ y ∈ scope.names, y.2 = .local → scope.names.lookup y.1 = some .local) (hx : scope.names.lookup x = some .local)
    (h : wpAny (model prog w) A (eval iter env) (fun xv s₁ => ∃ y t news, xv = .str y t ∧ A.handled = none ∧ Fr h₀ L s₁.heap m ∧ News h₀ L s₁.heap news ∧ y.cps.size ≤ sizeLine ∧
      ∀ g, LCg.CompRest prog w A h₀ L m env elt x scope cl { s₁ with heap := g } (fun _ => True) (SignAt y) (LCg.FinE h₀ L m { s₁ with heap := g } Q) y.cps.size 0 [] news) E s)
    (hs : ∀ x, foldedSetIterable iter env x = pure x := by intro _; rfl) :
    wpAny (model prog w) A (eval (.ListComp elt [⟨.Name x px, iter, [], 0⟩] scope pos) env) Q E s := by
  rw [eval_ListComp]
  refine wpAny_comprehension_free (use := none) rfl hs hclos hkind hnames (wpAny_mono h (fun xv s₁ h₁ => ?_) fun _ _ e => e)
  obtain ⟨y, t, news, rfl, hh, F, N, hsz, R⟩ := h₁
  have fin : ∀ (o : Obj) (St : Nat → Heap → Prop), Walks prog w A s₁.heap.objs.size [s₁.heap.objs.size] [s₁.heap.objs.size] y.cps.size (SignAt y) St → St 0 (s₁.heap.push o) → (∀ i h, St i h → ∃ o, h.get? s₁.heap.objs.size = some o) →
      (∀ i h h' o nw, St i h → h.get? s₁.heap.objs.size = some o → h'.get? s₁.heap.objs.size = some o → (∀ b o, h₀.get? b = some o → h'.get? b = some o) → News h₀ L h' nw → True → St i h') →
      wpAny (model prog w) A (newList []) (fun acc s₃ => wpAny (model prog w) A (newFunctionEnv scope env.globals cl [] env.qual none .none (some env)) (fun cenv s₄ =>
        codeAny (model prog w) A (.compStart (.ListComp elt [⟨.Name x px, iter, [], 0⟩] scope pos) 0 (.ref s₁.heap.objs.size) acc { cenv with scope := relabel scope env }) (compPost (model prog w) A E none Q acc cenv.locals) s₄) E s₃) E { s₁ with heap := s₁.heap.push o } := by
    intro o St W hst hIo hSt
    refine LCg.block_U (S := fun _ => True) W hsz hIo hSt hcell hkind hx hst (fun b hb => ?_)
      (F.keeps fun _ _ e => Heap.get?_push_of_some _ e) (N.grown fun _ _ e => Heap.get?_push_of_some _ e) (Nat.ne_of_lt F.ns.lt) (next_is_new F) (fun p hp => Nat.ne_of_lt (Heap.lt_size (N p hp).1)) trivial (R _) ?_
    · rw [List.mem_singleton.mp hb]
      show s₁.heap.objs.size < (s₁.heap.push _).objs.size
      rw [Heap.size_push]; exact Nat.lt_succ_self _
    · intro D C h' tk m' ys news' F' N' o1 hn hC₀ hD₀ hCL hDL hCD offC fin
      refine ⟨m', hn, fun h'' hs'' => fin D h'' tk (F'.change hs'' hCL hC₀) (fun p hp => ?_) o1⟩
      refine ⟨hs''.extBut _ _ ?_ (N' p hp).1, (N' p hp).2⟩
      rcases List.mem_cons.mp hp with rfl | hp
      · exact Ne.symm hCD
      · exact offC p hp
  cases ha : y.cps.all (· < 128)
  · exact wpAny_pyIter_wide ha (fin _ _ (Walks.strWide hh _ y t) ⟨_, Heap.get?_push_size _ rfl, rfl, rfl⟩ (fun i h st => ⟨_, st.choose_spec.1⟩) str_st)
  · exact wpAny_pyIter_ascii ha (fin _ _ (Walks.strAscii hh _ y t) ⟨_, Heap.get?_push_size _ rfl, rfl, rfl⟩ (fun i h st => ⟨_, st.choose_spec.1⟩) str_st)
end
end Mine
end

section
open PySem PySem.W PyProof.Rows PySem.Spec PySem.Calls
set_option maxRecDepth 100000
set_option maxHeartbeats 4000000
namespace Mine

abbrev cellO : Obj := { cls := .type "cell", data := .cell none }
abbrev dictO : Obj := { cls := .type "dict", data := .dict #[] }

section
variable {M : Model} {A : Around} {E : Value → Shared → Prop} {s : Shared}
/-- a comprehension's frame whose one cell is its target -/
theorem newEnv_cell {scope : Scope} {globals : Addr} {cl : List (Str × Addr)} {qual : Str} {outer : Env} {x : Str} {Q : Env → Shared → Prop}
    (hcf : ∀ n, cellsFrom n scope.names cl = (x, n) :: cl) (hpc : ∀ h, pushCells h scope.names = h.push cellO)
    (h : Q { scope := scope, locals := s.heap.objs.size, globals := globals, cells := (x, s.heap.objs.size + 1) :: cl, qual := qual, func := none, code := outer.code, frame := outer.frame, builtins := outer.builtins }
      { s with heap := (s.heap.push dictO).push cellO }) :
    wpAny M A (newFunctionEnv scope globals cl [] qual none .none (some outer)) Q E s := by
  simp only [newFunctionEnv, Option.isSome_some, if_true]
  refine wpAny_bind (wpAny_alloc ?_)
  refine wpAny_bind (wpAny_layCells _ (fun name kind cells => by cases hkc : kind == NameKind.cell <;> simp [hkc]) _ _ _ _ ?_)
  rw [hpc, hcf]
  rw [show ({ s with heap := s.heap.push dictO } : Shared).heap.objs.size = s.heap.objs.size + 1 from Heap.size_push ..]
  exact wpAny_bind (wpAny_pure (wpAny_pure h))
end

section
variable {prog : Program} {w : World} {A : Around} {E : Value → Shared → Prop} {s : Shared} {h₀ : Heap} {L : Addr} {m : Str → Option Value} {env : Env}

/-- the turns left: the element's walk may lay new objects down (the ledger grows) -/
def CRest (prog : Program) (w : World) (A : Around) (h₀ : Heap) (L : Addr) (m : Str → Option Value) (env : Env) (elt : Expr) (scope : Scope) (x : Str) (cl : List (Str × Addr)) (s : Shared) (P : Nat → Value → Prop)
    (Fin : List Value → List (Addr × Obj) → Prop) : Nat → Nat → List Value → List (Addr × Obj) → Prop
  | 0, _, ys, news => Fin ys news
  | k + 1, i, ys, news => ∀ v I oI C oC c oc D h tk (E' : Value → Shared → Prop), P i v → oc.data = .cell (some v) → Fr h₀ L h m → News h₀ L h ((c, oc) :: (I, oI) :: (C, oC) :: (D, LCg.lst ys) :: news) → (∀ p ∈ news, p.1 ≠ I ∧ p.1 ≠ C ∧ p.1 ≠ D ∧ p.1 ≠ c) →
      wpAny (model prog w) A (eval elt (compEnvC scope ((x, c) :: cl) C env)) (fun y s₂ => ∃ h' tk' news', s₂ = { s with heap := h', toks := tk' } ∧ Fr h₀ L h' m ∧ News h₀ L h' ((c, oc) :: (I, oI) :: (C, oC) :: (D, LCg.lst ys) :: news') ∧
        (∀ p ∈ news', p.1 ≠ I ∧ p.1 ≠ C ∧ p.1 ≠ D ∧ p.1 ≠ c) ∧ CRest prog w A h₀ L m env elt scope x cl s P Fin k (i + 1) (ys ++ [y]) news') E' { s with heap := h, toks := tk }

theorem lookup_relabel_cell {env : Env} : ∀ {names : List (Str × NameKind)} {x : Str}, names.lookup x = some .cell →
    (names.map fun (n, k) => if (k == NameKind.free && env.scope.kind == .function && env.kindOf n == some .cell) then (n, NameKind.cell) else (n, k)).lookup x = some .cell
  | [], _, h => by simp at h
  | (n, k) :: r, x, h => by
    have ih := @lookup_relabel_cell env r x
    show List.lookup x ((if (k == NameKind.free && env.scope.kind == .function && env.kindOf n == some .cell) = true then (n, NameKind.cell) else (n, k)) :: _) = _
    cases hx : x == n with
    | true =>
      simp only [List.lookup_cons, hx] at h
      cases h
      simp [List.lookup_cons, hx]
    | false =>
      simp only [List.lookup_cons, hx] at h
      by_cases hc : (k == NameKind.free && env.scope.kind == .function && env.kindOf n == some .cell) = true
      · rw [if_pos hc]; simp only [List.lookup_cons, hx]; exact ih h
      · rw [if_neg hc]; simp only [List.lookup_cons, hx]; exact ih h

theorem news_same {h₀ h h' : Heap} {L d : Addr} {news : List (Addr × Obj)} (N : News h₀ L h news) (hs : Heap.SameBut d h h') (off : ∀ p ∈ news, p.1 ≠ d) : News h₀ L h' news :=
  fun p hp => ⟨(hs.2 p.1 (off p hp)).trans (N p hp).1, (N p hp).2⟩

theorem block_C {elt iter : Expr} {x : Str} {px : Pos} {scope : Scope} {cl : List (Str × Addr)} {pos : Pos} {s₂ : Shared} {I : Addr} {n : Nat} {P : Nat → Value → Prop} {St : Nat → Heap → Prop} {news : List (Addr × Obj)}
    {Fin : List Value → List (Addr × Obj) → Prop} {RR : Value → Addr → Result → Shared → Prop}
    (W : Walks prog w A I [I] [I] n P St) (hsz : n ≤ sizeLine) (hIo : ∀ i h, St i h → ∃ o, h.get? I = some o)
    (hcf : ∀ n, cellsFrom n scope.names cl = (x, n) :: cl) (hpc : ∀ h, pushCells h scope.names = h.push cellO)
    (hkind : scope.kind = .function) (hx : scope.names.lookup x = some .cell) (hst : St 0 s₂.heap) (hIlt : I < s₂.heap.objs.size)
    (F : Fr h₀ L s₂.heap m) (N : News h₀ L s₂.heap news) (hIL : L ≠ I) (hI₀ : h₀.get? I = none) (off : ∀ p ∈ news, p.1 ≠ I)
    (R : CRest prog w A h₀ L m env elt scope x cl s₂ P Fin n 0 [] news)
    (hRR : ∀ D C h tk m' ys news', Fr h₀ L h m → News h₀ L h ((D, LCg.lst ys) :: news') → (∀ p ∈ news', p.1 ≠ D) → h.Ns C m' → h₀.get? C = none → h₀.get? D = none → C ≠ L → D ≠ L → C ≠ D → (∀ p ∈ news', p.1 ≠ C) → Fin ys news' → RR (.ref D) C (.ok .next) { s₂ with heap := h, toks := tk }) :
    wpAny (model prog w) A (newList []) (fun acc s₃ => wpAny (model prog w) A (newFunctionEnv scope env.globals cl [] env.qual none .none (some env)) (fun cenv s₄ =>
      codeAny (model prog w) A (.compStart (.ListComp elt [⟨.Name x px, iter, [], 0⟩] scope pos) 0 (.ref I) acc { cenv with scope := relabel scope env }) (RR acc cenv.locals) s₄) E s₃) E s₂ := by
  refine wpAny_newObj_type (newEnv_cell hcf hpc ?_)
  dsimp only
  generalize hH2 : s₂.heap.push { cls := .type "list", dict := none, data := .seq ([] : List Value).toArray } = H2
  have hC : H2.objs.size = s₂.heap.objs.size + 1 := by rw [← hH2, Heap.size_push]
  have hDdef : ∃ D, D = s₂.heap.objs.size := ⟨_, rfl⟩
  obtain ⟨D, hD⟩ := hDdef
  have hCdef : ∃ C, C = H2.objs.size := ⟨_, rfl⟩
  obtain ⟨C, hC'⟩ := hCdef
  have hcdef : ∃ c, c = H2.objs.size + 1 := ⟨_, rfl⟩
  obtain ⟨c, hc'⟩ := hcdef
  rw [← hc', ← hC', ← hD]
  have nI : @LT.lt Nat _ I D := by rw [hD]; exact hIlt
  have nC : @Eq Nat C (D + 1) := by rw [hC', hC, hD]
  have nc : @Eq Nat c (D + 2) := by rw [hc', hC, hD]
  generalize hH3 : (H2.push dictO).push cellO = H3
  have below : ∀ (b : Nat) o, s₂.heap.get? b = some o → b < D := fun b o e => by rw [hD]; exact Heap.lt_size e
  have old : ∀ b o, s₂.heap.get? b = some o → H3.get? b = some o := fun b o e => by
    rw [← hH3]; exact Heap.get?_push_of_some _ (Heap.get?_push_of_some _ (hH2 ▸ Heap.get?_push_of_some _ e))
  have hacc : H3.get? D = some (LCg.lst []) := by
    rw [← hH3, hD]; exact Heap.get?_push_of_some _ (Heap.get?_push_of_some _ (hH2 ▸ Heap.get?_push_size _ rfl))
  have hnsC : H3.Ns C (fun _ => none) := by
    have h1 : (H2.push dictO).Ns C (fun _ => none) := by rw [hC']; exact Heap.Ns.new H2 (.type "dict")
    rw [← hH3]; exact h1.keeps fun b o e => Heap.get?_push_of_some _ e
  have hcell : H3.get? c = some cellO := by
    have : (H2.push dictO).objs.size = c := by rw [Heap.size_push, hc']
    rw [← hH3, ← this]; exact Heap.get?_push_size _ rfl
  have fresh₀ : ∀ a : Nat, D ≤ a → h₀.get? a = none := fun a ha => by
    cases e : h₀.get? a with
    | none => rfl
    | some o' => have := below _ _ (F.keep a o' e); exact absurd this (Nat.not_lt.mpr ha)
  have hLlt : @LT.lt Nat _ L D := by rw [hD]; exact F.ns.lt
  have loop : codeAny (model prog w) A (.compLoop (.ListComp elt [⟨.Name x px, iter, [], 0⟩] scope pos) 0 (.ref I) (.ref D) (compEnvC scope ((x, c) :: cl) C env)) (RR (.ref D) C) { s₂ with heap := H3 } := by
    refine codeAny_compLoop_list
      (fun k s' => ∃ h' tk i ys m' oc v₀ news', s' = { s₂ with heap := h', toks := tk } ∧ i ≤ n ∧ k = n + 1 - i ∧ ys.length = i ∧ St i h' ∧ Fr h₀ L h' m ∧ h'.Ns C m' ∧ oc.data = .cell v₀ ∧ News h₀ L h' ((c, oc) :: (D, LCg.lst ys) :: news') ∧
        (∀ p ∈ news', p.1 ≠ I ∧ p.1 ≠ C ∧ p.1 ≠ D ∧ p.1 ≠ c) ∧ CRest prog w A h₀ L m env elt scope x cl s₂ P Fin (n - i) i ys news') ?_ (n + 1)
      ⟨H3, s₂.toks, 0, [], _, cellO, none, news, rfl, Nat.zero_le _, rfl, rfl, W.frame _ _ _ hst (fun b _ o e => old b o e), F.keeps old, hnsC, rfl, fun p hp => ?_, fun p hp => ?_, R⟩
    · rintro k s' ⟨h', tk, i, ys, m', oc, v₀, news', rfl, hi, rfl, hyl, hst', F', hn', hoc, N', off', R'⟩
      by_cases hlt : i < n
      · obtain ⟨j, hj⟩ : ∃ j, n - i = j + 1 := ⟨n - i - 1, by omega⟩
        rw [hj] at R'
        refine W.item i _ _ _ hlt hst' fun v h₂ tk₂ hPv hst₂ hk₂ => ?_
        have N₂ : News h₀ L h₂ ((c, oc) :: (D, LCg.lst ys) :: news') := LCg.news_but N' hk₂ fun p hp => by
          rcases List.mem_cons.mp hp with rfl | hp
          · exact neN (a := c) (b := I) (by omega)
          · rcases List.mem_cons.mp hp with rfl | hp
            · exact neN (a := D) (b := I) (by omega)
            · exact (off' p hp).1
        have F₂ : Fr h₀ L h₂ m := LCg.fr_but F' hk₂ hIL hI₀
        have hnC₂ : h₂.Ns C m' := hn'.at' fun o e => hk₂ _ o (by rw [List.mem_singleton]; exact neN (by omega)) e
        refine wpAny_assign_Name (wpAny_storeName_cell (env := compEnvC scope ((x, c) :: cl) C env) (c := c) (v₀ := v₀) hkind (lookup_relabel_cell hx) (by simp [compEnvC]) ⟨oc, (N₂ _ (.head _)).1, hoc⟩ fun h₃ hv₃ hs₃ => ?_)
        obtain ⟨oc₃, hoc₃, hd₃⟩ := hv₃
        have hst₃ : St (i + 1) h₃ := W.frame _ _ _ hst₂ fun b hb o e => hs₃.extBut b o (by rw [List.mem_singleton.mp hb]; exact neN (by omega)) e
        obtain ⟨oI, heI⟩ := hIo _ _ hst₃
        have hnC₃ : h₃.Ns C m' := hnC₂.sameBut hs₃ (neN (by omega))
        obtain ⟨oC, heC, hoC⟩ := LCg.ns_obj hnC₃
        have F₃ : Fr h₀ L h₃ m := F₂.change hs₃ (neN (by omega)) (fresh₀ c (by omega))
        have N₃ : News h₀ L h₃ ((c, oc₃) :: (I, oI) :: (C, oC) :: (D, LCg.lst ys) :: news') := fun p hp => by
          rcases List.mem_cons.mp hp with rfl | hp
          · exact ⟨hoc₃, by exact neN (a := c) (b := L) (by omega), fresh₀ c (by omega)⟩
          · rcases List.mem_cons.mp hp with rfl | hp
            · exact ⟨heI, Ne.symm hIL, hI₀⟩
            · rcases List.mem_cons.mp hp with rfl | hp
              · exact ⟨heC, by exact neN (a := C) (b := L) (by omega), fresh₀ C (by omega)⟩
              · have z := N₂ p (List.mem_cons_of_mem _ hp)
                refine ⟨(hs₃.2 p.1 ?_).trans z.1, z.2⟩
                rcases List.mem_cons.mp hp with rfl | hp
                · exact neN (a := D) (b := c) (by omega)
                · exact (off' p hp).2.2.2
        refine wpAny_mono (R' v I oI C oC c oc₃ D h₃ _ _ hPv hd₃ F₃ N₃ off') (fun y s₄ h₄ => ?_) fun _ _ e => e
        obtain ⟨h₄, tk₄, news₄, rfl, F₄, N₄, off₄, R₄⟩ := h₄
        have zI := (N₄ (I, oI) (by simp)).1
        have zC := (N₄ (C, oC) (by simp)).1
        have zD := (N₄ (D, LCg.lst ys) (by simp)).1
        have zc := (N₄ (c, oc₃) (by simp)).1
        have N₄' : News h₀ L h₄ news₄ := fun p hp => N₄ p (by simp [hp])
        have hst₄ : St (i + 1) h₄ := W.frame _ _ _ hst₃ fun b hb o e => by
          rw [List.mem_singleton.mp hb] at e ⊢
          rw [heI] at e; cases e; exact zI
        refine append_at (hsz := by show ys.toArray.size ≤ sizeLine; rw [List.size_toArray, hyl]; exact Nat.le_trans hi hsz) zD fun h₅ hs₅ hD₅ => ?_
        refine ⟨n + 1 - (i + 1), by omega, h₅, tk₄, i + 1, ys ++ [y], m', oc₃, some v, news₄, rfl, hlt, rfl, by rw [List.length_append, List.length_singleton, hyl], W.frame _ _ _ hst₄ fun b hb o e => hs₅.extBut b o (by rw [List.mem_singleton.mp hb]; exact neN (by omega)) e, F₄.change hs₅ (neN (by omega)) (fresh₀ D (Nat.le_refl _)),
          (hoC.ns zC).sameBut hs₅ (neN (by omega)), hd₃, fun p hp => ?_, off₄, ?_⟩
        · rcases List.mem_cons.mp hp with rfl | hp
          · exact ⟨hs₅.extBut _ _ (by exact neN (a := c) (b := D) (by omega)) zc, by exact neN (a := c) (b := L) (by omega), fresh₀ c (by omega)⟩
          · rcases List.mem_cons.mp hp with rfl | hp
            · exact ⟨hD₅.trans (congrArg some (LCg.lst_snoc ys y)), by exact neN (a := D) (b := L) (by omega), fresh₀ D (Nat.le_refl _)⟩
            · exact ⟨hs₅.extBut _ _ (off₄ p hp).2.2.1 (N₄' p hp).1, (N₄' p hp).2⟩
        · rw [show n - (i + 1) = j by omega]
          exact R₄
      · obtain rfl : i = n := Nat.le_antisymm hi (Nat.not_lt.mp hlt)
        rw [Nat.sub_self] at R'
        refine W.done _ _ _ hst' fun h₂ tk₂ hk₂ => ?_
        exact hRR D C h₂ tk₂ _ ys news' (LCg.fr_but F' hk₂ hIL hI₀) (LCg.news_but (fun p hp => N' p (List.mem_cons_of_mem _ hp)) hk₂ fun p hp => by
          rcases List.mem_cons.mp hp with rfl | hp
          · exact neN (a := D) (b := I) (by omega)
          · exact (off' p hp).1) (fun p hp => (off' p hp).2.2.1) (hn'.at' fun o e => hk₂ _ o (by rw [List.mem_singleton]; exact neN (by omega)) e) (fresh₀ C (by omega)) (fresh₀ D (Nat.le_refl _)) (neN (by omega)) (neN (by omega)) (neN (by omega)) (fun p hp => (off' p hp).2.1) R'
    · rcases List.mem_cons.mp hp with rfl | hp
      · exact ⟨hcell, by exact neN (a := c) (b := L) (by omega), fresh₀ c (by omega)⟩
      · rcases List.mem_cons.mp hp with rfl | hp
        · exact ⟨hacc, by exact neN (a := D) (b := L) (by omega), fresh₀ D (Nat.le_refl _)⟩
        · exact ⟨old _ _ (N p hp).1, (N p hp).2⟩
    · have hb := below _ _ (N p hp).1
      exact ⟨off p hp, neN (by omega), neN (by omega), neN (by omega)⟩
  exact codeAny_compStart_list loop (W.self 0 _ _ _ (W.frame _ _ _ hst (fun b _ o e => old b o e)) loop)

def CFinA (h₀ : Heap) (L : Addr) (m : Str → Option Value) (s : Shared) (y : Str) (Q : Flow → Shared → Prop) (ys : List Value) (news : List (Addr × Obj)) : Prop :=
  ∀ D h tk, Fr h₀ L h (fun z => if z = y then some (.ref D) else m z) → News h₀ L h ((D, LCg.lst ys) :: news) → (∀ p ∈ news, p.1 ≠ D) → Q .next { s with heap := h, toks := tk }

/-- y = [elt for x in range ..], the target a cell of the comprehension's own frame -/
theorem Assign_ListComp_C {elt iter : Expr} {x y : Str} {px py : Pos} {scope : Scope} {cl : List (Str × Addr)} {pos spos : Pos} {Q : Flow → Shared → Prop} (hLe : env.locals = L)
    (hsw : swapsWith (.ListComp elt [⟨.Name x px, iter, [], 0⟩] scope pos) (some (.Name y py)) spos.line env = pure true)
    (hclos : closureFor scope env = pure cl) (hcf : ∀ n, cellsFrom n scope.names cl = (x, n) :: cl) (hpc : ∀ h, pushCells h scope.names = h.push cellO) (hkind : scope.kind = .function)
    (hnames : ∀ z ∈ scope.names, z.2 = .local → scope.names.lookup z.1 = some .local) (hx : scope.names.lookup x = some .cell)
    (hy : env.kindOf y = some .local) (hp : (env.scope.kind == .class || (env.scope.kind == .module && env.locals != env.globals)) = false)
    (h : wpAny (model prog w) A (eval iter env) (fun xv s₁ => ∃ r a b t u v n news, xv = .ref r ∧ A.handled = none ∧ Fr h₀ L s₁.heap m ∧ News h₀ L s₁.heap news ∧ IsRange s₁.heap r a b 1 t u v ∧ Builtin.Range.small a b 1 = true ∧ Builtin.Range.rangeSize a b 1 = ((n : Nat) : Int) ∧ n ≤ sizeLine ∧
      ∀ g, CRest prog w A h₀ L m env elt scope x cl { s₁ with heap := g } (fun i v => ∃ t, v = .int (a + (i : Int)) t) (CFinA h₀ L m { s₁ with heap := g } y Q) n 0 [] news) E s)
    (hs : ∀ x, foldedSetIterable iter env x = pure x := by intro _; rfl) :
    wpAny (model prog w) A (exec (.Assign [.Name y py] (.ListComp elt [⟨.Name x px, iter, [], 0⟩] scope pos) spos) env) Q E s := by
  subst hLe
  rw [exec_Assign_Name_used _ _ _ _ hsw]
  refine wpAny_bind (wpAny_standAt (wpAny_bind ?_))
  show wpAny _ A (do let _ ← comprehension (.ListComp elt [⟨.Name x px, iter, [], 0⟩] scope pos) scope env _ (newList []) false (eval iter env) (some (assign (.Name y py) env))) _ _ s
  refine wpAny_bind (wpAny_mono (wpAny_comprehension_free (use := some (assign (.Name y py) env)) (Q := fun _ s' => Q .next s') rfl hs hclos hkind hnames
    (wpAny_mono h (fun xv s₁ h₁ => ?_) fun _ _ e => e)) (fun _ s' hq => wpAny_pure (wpAny_pure hq)) fun _ _ e => e)
  obtain ⟨r, a, b, t, u, v, n, news, rfl, hh, F, N, hr, hsm, hn, hsz, R⟩ := h₁
  refine wpAny_pyIter_range hr hsm ?_
  refine block_C (LCg.range_walks hh a n) hsz (fun i h st => ⟨_, st⟩) hcf hpc hkind hx (by show IsRangeIter _ _ _ _ _; rw [hn]; simpa using Heap.get?_push_size _ rfl) ?_
    (F.keeps fun _ _ e => Heap.get?_push_of_some _ e) (N.grown fun _ _ e => Heap.get?_push_of_some _ e) (Nat.ne_of_lt F.ns.lt) (next_is_new F) (fun p hp => Nat.ne_of_lt (Heap.lt_size (N p hp).1)) (R _) ?_
  · show s₁.heap.objs.size < (s₁.heap.push _).objs.size
    rw [Heap.size_push]; exact Nat.lt_succ_self _
  · intro D C h' tk m' ys news' F' N' o1 hn hC₀ hD₀ hCL hDL hCD offC fin
    show wpAny _ A (assign (.Name y py) env (.ref D)) _ _ _
    refine wpAny_assign_Name (wpAny_storeName_local hy F'.ns (fun h₂ hn₂ hs₂ => ?_) hp)
    have hL₀ : h₀.get? env.locals = none := Heap.get?_none_of_le F'.above
    have F₂ : Fr h₀ env.locals h₂ (fun z => if z = y then some (.ref D) else m z) := ⟨hn₂, fun b o e => hs₂.extBut b o (fun q => by rw [q, hL₀] at e; cases e) (F'.keep b o e), F'.above⟩
    refine ⟨m', hn.sameBut hs₂ hCL, fun h'' hs'' => fin D h'' _ (F₂.change hs'' hCL hC₀) (fun p hp => ?_) o1⟩
    have z : h₂.get? p.1 = some p.2 := hs₂.extBut _ _ (N' p hp).2.1 (N' p hp).1
    refine ⟨hs''.extBut _ _ ?_ z, (N' p hp).2⟩
    rcases List.mem_cons.mp hp with rfl | hp
    · exact Ne.symm hCD
    · exact offC p hp

/-- what a turn's end must show -/
def TurnEnd (h₀ : Heap) (L : Addr) (c I : Addr) (keep : List (Addr × Obj)) (J : (Str → Option Value) → List (Addr × Obj) → Prop) (Q : Flow → Shared → Prop) (s₁ : Shared) (f : Flow) (s₂ : Shared) : Prop :=
  match f with
  | .ret v => Q (.ret v) s₂
  | .brk => Q .next s₂
  | _ => ∃ h' tk m' o' v' var, s₂ = { s₁ with heap := h', toks := tk } ∧ Fr h₀ L h' m' ∧ News h₀ L h' ((c, o') :: (var ++ keep)) ∧ o'.data = .cell v' ∧ (∀ p ∈ var, p.1 ≠ c ∧ p.1 ≠ I) ∧ J m' var

/-- for x in range ..: body, x a cell of the frame's; var: what the turns turn, keep: what stands -/
theorem For_cell {iter : Expr} {x : Str} {px pos : Pos} {body : List Stmt} {c : Addr} {Q : Flow → Shared → Prop} (hLe : env.locals = L) (hk : env.scope.kind = .function) (hx : env.kindOf x = some .cell) (hc : env.cells.lookup x = some c)
    (h : wpAny (model prog w) A (eval iter env) (fun xv s₁ => ∃ r a b t u v n keep var₀ m₀ o₀ v₀, ∃ J : Nat → (Str → Option Value) → List (Addr × Obj) → Prop, xv = .ref r ∧ A.handled = none ∧ Fr h₀ L s₁.heap m₀ ∧ News h₀ L s₁.heap ((c, o₀) :: (var₀ ++ keep)) ∧ o₀.data = .cell v₀ ∧ (∀ p ∈ var₀ ++ keep, p.1 ≠ c) ∧
      IsRange s₁.heap r a b 1 t u v ∧ Builtin.Range.small a b 1 = true ∧ Builtin.Range.rangeSize a b 1 = ((n : Nat) : Int) ∧ J 0 m₀ var₀ ∧
      (∀ i, i < n → ∀ m₁ I oI o var tk h t (E' : Value → Shared → Prop), J i m₁ var → o.data = .cell (some (.int (a + (i : Int)) t)) → Fr h₀ L h m₁ → News h₀ L h ((c, o) :: (var ++ (I, oI) :: keep)) → (∀ p ∈ var ++ keep, p.1 ≠ I) → @Ne Nat I c →
        wpAny (model prog w) A (execs body env) (TurnEnd h₀ L c I ((I, oI) :: keep) (J (i + 1)) Q { s₁ with heap := h, toks := tk }) E' { s₁ with heap := h, toks := tk }) ∧
      (∀ m₁ o v var tk h, J n m₁ var → o.data = .cell v → Fr h₀ L h m₁ → News h₀ L h ((c, o) :: (var ++ keep)) → Q .next { s₁ with heap := h, toks := tk })) E s)
    (hs : ∀ x, foldedSetIterable iter env x = pure x := by intro _; rfl) :
    wpAny (model prog w) A (exec (.For (.Name x px) iter body [] pos) env) Q E s := by
  subst hLe
  refine wpAny_For (wpAny_mono h (fun xv s₁ h₁ => ?_) fun _ _ e => e) hs
  obtain ⟨r, a, b, t, u, v, n, keep, var₀, m₀, o₀, v₀, J, rfl, hh, F, N, ho₀, hoff, hr, hsm, hn, hJ, turn, done⟩ := h₁
  refine wpAny_pyIter_range hr hsm ?_
  have W : Walks prog w A s₁.heap.objs.size [s₁.heap.objs.size] [s₁.heap.objs.size] n (fun i v => i < n ∧ ∃ t, v = .int (a + i * 1) t)
      (fun i h => IsRangeIter h s₁.heap.objs.size (a + (i : Nat) * 1) ((n : Int) - (i : Nat)) 1) := (Walks.range hh _ a 1 n).bound
  have up : ∀ o b o', s₁.heap.get? b = some o' → (s₁.heap.push o).get? b = some o' := fun o b o' e => Heap.get?_push_of_some _ e
  have hIdef : ∃ I : Nat, I = s₁.heap.objs.size := ⟨_, rfl⟩
  obtain ⟨I, hI⟩ := hIdef
  rw [← hI] at W
  have hI₀ : h₀.get? I = none := by rw [hI]; exact next_is_new F
  have lt : ∀ b o, s₁.heap.get? b = some o → @LT.lt Nat _ b I := fun b o e => by rw [hI]; exact Heap.lt_size e
  have hLI : @LT.lt Nat _ env.locals I := by rw [hI]; exact F.ns.lt
  have hc₀ : h₀.get? c = none := (N (c, o₀) (.head _)).2.2
  have hcL : c ≠ env.locals := (N (c, o₀) (.head _)).2.1
  have hcI : @LT.lt Nat _ c I := lt _ _ (N (c, o₀) (.head _)).1
  have hnI : ∀ p ∈ var₀ ++ keep, p.1 ≠ I := fun p hp => neN (Nat.ne_of_lt (lt _ _ (N p (List.mem_cons_of_mem _ hp)).1))
  have hkI : ∀ p ∈ keep, p.1 ≠ I := fun p hp => hnI p (List.mem_append_right _ hp)
  have hkc : ∀ p ∈ keep, p.1 ≠ c := fun p hp => hoff p (List.mem_append_right _ hp)
  rw [← hI]
  refine codeAny_forLoop (fun k s' => ∃ i h' tk m₁ o v var, s' = { s₁ with heap := h', toks := tk } ∧ i ≤ n ∧ k = n + 1 - i ∧ IsRangeIter h' I (a + (i : Nat) * 1) ((n : Int) - (i : Nat)) 1 ∧ Fr h₀ env.locals h' m₁ ∧ News h₀ env.locals h' ((c, o) :: (var ++ keep)) ∧ o.data = .cell v ∧ (∀ p ∈ var, p.1 ≠ c ∧ p.1 ≠ I) ∧ J i m₁ var) ?_ (n + 1)
    ⟨0, _, s₁.toks, m₀, o₀, v₀, var₀, rfl, Nat.zero_le _, rfl, by show IsRangeIter _ _ _ _ _; rw [hn, hI]; simpa using Heap.get?_push_size _ rfl, F.push _, N.grown (up _), ho₀, fun p hp => ⟨hoff p (List.mem_append_left _ hp), hnI p (List.mem_append_left _ hp)⟩, hJ⟩
  rintro k s' ⟨i, h', tk, m₁, o, v, var, rfl, hi, rfl, st, F', N', hd, hv, hJ'⟩
  have offI : ∀ p ∈ (c, o) :: (var ++ keep), p.1 ≠ I := fun p hp => by
    rcases List.mem_cons.mp hp with rfl | hp
    · exact neN (a := c) (b := I) (by omega)
    · rcases List.mem_append.mp hp with hp | hp
      · exact (hv p hp).2
      · exact hkI p hp
  by_cases hlt : i < n
  · refine W.item i _ _ _ hlt st fun v' h₂ tk₂ hPv st₂ hk₂ => ?_
    obtain ⟨_, t', rfl⟩ := hPv
    have F₂ : Fr h₀ env.locals h₂ m₁ := LCg.fr_but F' hk₂ (neN (by omega)) hI₀
    have N₂ : News h₀ env.locals h₂ ((c, o) :: (var ++ keep)) := LCg.news_but N' hk₂ offI
    refine wpAny_assign_Name (wpAny_storeName_cell hk hx hc ⟨o, (N₂ _ (.head _)).1, hd⟩ fun h₃ hv₃ hs₃ => ?_)
    obtain ⟨o₃, ho₃, hd₃⟩ := hv₃
    have st₃ : IsRangeIter h₃ I (a + ((i + 1 : Nat) : Int) * 1) ((n : Int) - ((i + 1 : Nat) : Int)) 1 := W.frame _ _ _ st₂ fun b hb o e => hs₃.extBut b o (by rw [List.mem_singleton.mp hb]; exact neN (by omega)) e
    obtain ⟨oI, hI₃, back⟩ : ∃ oI, h₃.get? I = some oI ∧ ∀ h' : Heap, h'.get? I = some oI → IsRangeIter h' I (a + ((i + 1 : Nat) : Int) * 1) ((n : Int) - ((i + 1 : Nat) : Int)) 1 := ⟨_, st₃, fun h' e => e⟩
    have F₃ : Fr h₀ env.locals h₃ m₁ := F₂.change hs₃ hcL hc₀
    have N₃ : News h₀ env.locals h₃ ((c, o₃) :: (var ++ (I, oI) :: keep)) := fun p hp => by
      rcases List.mem_cons.mp hp with rfl | hp
      · exact ⟨ho₃, hcL, hc₀⟩
      · rcases List.mem_append.mp hp with hp | hp
        · exact ⟨(hs₃.2 p.1 (hv p hp).1).trans (N₂ p (by simp [hp])).1, (N₂ p (by simp [hp])).2⟩
        · rcases List.mem_cons.mp hp with rfl | hp
          · exact ⟨hI₃, neN (a := I) (b := env.locals) (by omega), hI₀⟩
          · exact ⟨(hs₃.2 p.1 (hkc p hp)).trans (N₂ p (by simp [hp])).1, (N₂ p (by simp [hp])).2⟩
    have e1 : a + (i : Int) * 1 = a + (i : Int) := by omega
    rw [e1] at hd₃
    refine wpAny_mono (turn i hlt m₁ I oI o₃ var _ h₃ t' _ hJ' hd₃ F₃ N₃ (fun p hp => offI p (List.mem_cons_of_mem _ hp)) (by omega)) (fun f s₂ hf => ?_) fun _ _ e => e
    have fin : (∃ h' tk m' o' v' var, s₂ = { ({ s₁ with heap := h₃, toks := tk₂ } : Shared) with heap := h', toks := tk } ∧ Fr h₀ env.locals h' m' ∧ News h₀ env.locals h' ((c, o') :: (var ++ (I, oI) :: keep)) ∧ o'.data = .cell v' ∧ (∀ p ∈ var, p.1 ≠ c ∧ p.1 ≠ I) ∧ J (i + 1) m' var) →
        ∃ k', k' < n + 1 - i ∧ ∃ i h' tk m₁ o v var, s₂ = { s₁ with heap := h', toks := tk } ∧ i ≤ n ∧ k' = n + 1 - i ∧ IsRangeIter h' I (a + (i : Nat) * 1) ((n : Int) - (i : Nat)) 1 ∧ Fr h₀ env.locals h' m₁ ∧ News h₀ env.locals h' ((c, o) :: (var ++ keep)) ∧ o.data = .cell v ∧ (∀ p ∈ var, p.1 ≠ c ∧ p.1 ≠ I) ∧ J i m₁ var := by
      rintro ⟨h₄, tk₄, m₄, o₄, v₄, var₄, rfl, F₄, N₄, hd₄, hv₄, hJ₄⟩
      refine ⟨n + 1 - (i + 1), by omega, i + 1, h₄, tk₄, m₄, o₄, v₄, var₄, rfl, hlt, rfl, ?_, F₄, fun p hp => N₄ p ?_, hd₄, hv₄, hJ₄⟩
      · exact back _ (N₄ (I, oI) (by simp)).1
      · rcases List.mem_cons.mp hp with rfl | hp
        · simp
        · rcases List.mem_append.mp hp with hp | hp <;> simp [hp]
    cases f with
    | ret v => exact hf
    | brk => exact hf
    | next => exact fin hf
    | cont => exact fin hf
  · obtain rfl : i = n := Nat.le_antisymm hi (Nat.not_lt.mp hlt)
    refine W.done _ _ _ st fun h₂ tk₂ hk₂ => wpAny_execs_nil ?_
    exact done m₁ o v var tk₂ h₂ hJ' hd (LCg.fr_but F' hk₂ (neN (by omega)) hI₀) (LCg.news_but N' hk₂ offI)
end
end Mine
end

section
open PySem PySem.W PyProof.Rows
set_option maxRecDepth 100000
set_option maxHeartbeats 8000000
namespace Mine
def lawS : Stmt := nthS PySem.Challenge.pw_io0058_01.main.body 17
def forBody : Stmt → List Stmt
  | .For _ _ b _ _ => b
  | _ => []
def lawB : List Stmt := fnBody lawS
def loopB : List Stmt := forBody (nthS lawB 5)
section
variable {prog : Program} {w : World} {A : Around} {E : Value → Shared → Prop} {s : Shared}
theorem item_vals {value slice : PySem.Expr} {l : Addr} {vs : List Value} {k : Int} {u : Tok} {x : Value} {Q : Value → Shared → Prop} (hl : s.heap.IsList l vs.toArray) (h0 : 0 ≤ k) (h1 : k < 100) (hx : vs[k.toNat]? = some x) (h : Q x s)
    (hs : subscripted slice false (.ref l) (.int k u) = operate [.ref l, .int k u] (getItem (.ref l) (.int k u)) := by with_unfolding_all rfl) :
    wpAny (model prog w) A (subscriptTail value slice (.ref l) (.int k u)) Q E s :=
  tail_any hl.typeIs slot_list_getitem.lookup (wpAny_getItem_list hl h0 (by omega) (by simpa using hx) h) hs
end
def Stop (P : Prop) : Prop := P
local macro_rules | `(tactic| walk_at "eval ListComp") => `(tactic| (k_here; k_dflt (show Stop _)))
local macro_rules | `(tactic| walk_at "subscriptTail") => `(tactic| (k_here; k_dflt (refine' item_vals ?hl ?h0 ?h1 ?h2 ?_ ?hs; (case hl => is_list); (case h0 => omega); (case h1 => omega); (case h2 => assumption); (case hs => with_unfolding_all rfl))))
theorem join_chr {prog : Program} {w : World} {A : Around} {E : Value → Shared → Prop} {s : Shared} {D : Addr} {vs : List Value} {ks : List Int} {t : Tok} {Q : Value → Shared → Prop}
    (hl : s.heap.IsList D vs.toArray) (hi : StrsAre vs (ks.map fun k => strOf [k.toNat])) (hsz : ks.length ≤ 100000) (h : ∀ t' k, Q (.str (strOf (ks.map Int.toNat)) t') { s with toks := k }) :
    wpAny (model prog w) A (call (.builtin "str.join") [.str (Str.ofString "") t, .ref D]) Q E s := by
  have e : (ks.map fun k => [k.toNat]).flatten = ks.map Int.toNat := by
    clear hi hsz h
    induction ks with
    | nil => rfl
    | cons k r ih => simp [ih]
  refine join_strs (ls := ks.map fun k => [k.toNat]) hl (by simpa [Function.comp_def] using hi) (by rw [e, List.length_map]; omega) ?_
  rw [e]; exact h
section
local macro_rules | `(tactic| walk_at "CompSrc") => `(tactic| (k_here; k_dflt (show Stop _)))
local macro_rules | `(tactic| walk_at "call builtin:str.join") => `(tactic| (k_here; k_dflt (show Stop _)))
local macro_rules | `(tactic| walk_at "call builtin:chr") => `(tactic| (k_here; k_dflt (show Stop _)))
local macro_rules | `(tactic| walk_at "call ref") => `(tactic| (k_here; k_dflt (show Stop _)))
local macro_rules | `(tactic| walk_at "ElRet") => `(tactic| (k_here; k_dflt (show Stop _)))
section
variable {w : World} {p : Program} {loose : List Str} {mean : ExcName → Option Value} {mg mb : Str → Option Value} {base h₀ : Heap} {L fa : Addr} {cd : Value} {m : Str → Option Value} {s : Shared} {Q : Flow → Shared → Prop} {E : Value → Shared → Prop}
theorem told_step {b : List UInt8} {tb : Tok} {Dn : Addr} {on : Obj} {n : Int} {tn : Tok} {nv : List Value} {ax : Addr} {vs : List Value} {ks : List Int} {tl : List (Addr × Obj)}
  (K0 : Below callerA base [] h₀) (KX : (K39 w.params).In h₀) (T : Top p loose mean mg mb h₀)
  (F : Fr h₀ L s.heap (fun z => if z = Str.ofString "text" then some (.bytes b.toArray tb) else if z = Str.ofString "names" then some (.ref Dn) else m z))
  (N : News h₀ L s.heap ((L + 1 + 1 + 1, on) :: (Dn, LCg.lst nv) :: (ax, LCg.lst vs) :: tl))
  (d : on.data = .cell (some (.int n tn))) (hn : 1 ≤ n ∧ n ≤ 4) (hb : b.length ≤ 100000) (hk : ks.length ≤ 7) (hv : nv[(n - 1).toNat]? = some (.ref ax)) (hi : IntsAre vs ks) (hr : ∀ k ∈ ks, 0 ≤ k ∧ k < 256)
  (h : ∀ h' tk t, Fr h₀ L h' (fun z => if z = Str.ofString "told" then some (.str (strOf (encR (ks.map Int.toNat) (b.map UInt8.toNat))) t) else if z = Str.ofString "text" then some (.bytes b.toArray tb) else if z = Str.ofString "names" then some (.ref Dn) else m z) → 
    News h₀ L h' ((L + 1 + 1 + 1, on) :: (Dn, LCg.lst nv) :: (ax, LCg.lst vs) :: tl) → Q .next { s with heap := h', toks := tk }) :
  wpAny (model PySem.Challenge.rw_io0058_01.row.prog w) (callerA.deeper (envOfC "law" (fnScope lawS) L fa cd)) (exec (nthS loopB 0) (envOfC "law" (fnScope lawS) L fa cd)) Q E s := by
  dsimp only [loopB, lawB, forBody, lawS, PySem.Challenge.pw_io0058_01, nthS, fnBody, fnScope]
  revert KX; k_fill; intro KX; k_steps
  show wpAny _ _ _ _ _ _
  refine LCg.ListComp_U (F₀ := by k_asm) (by with_unfolding_all rfl) (by decide) (by rfl) (by decide) (by rfl) ?_
  k_steps
  show LCg.CompSrc _ _ _ _ _ _ _ _ _ _ _ _ _ _
  refine' src_strs (fun k => [k.toNat]) ?hh ?F ?N ?hm ?hi ?hsz ?turn ?fin
  (case hh => rfl)
  (case F => k_asm)
  (case N => k_asm)
  (case hm => (dsimp only [LCg.lst]; news_mem))
  (case hi => assumption)
  (case hsz => omega)
  (case' turn => intro gh k t I oI C oC D m₂ ys h tk E' hkm hC hx F N)
  (case' fin => intro gh ys hys)
  case turn =>
    have hk2 := hr k hkm
    dsimp only
    k_steps
    show wpAny _ _ _ _ _ _
    refine chr_of_range hk2.1 (by omega) ?_
    k_steps
    show ElRet _ _ _ _ _ _ _ _
    exact ElRet.mk (y := [k.toNat]) rfl (by k_asm) (by k_asm) (fun p hp => hp)
  case fin =>
    k_steps
    show wpAny _ _ _ _ _ _
    refine' join_chr (ks := ks) ?hl hys ?hz ?_
    case hl => (dsimp only [LCg.lst] at *; exact News.isList (by k_asm) (by news_mem))
    case hz => omega
    intro t1 k1
    k_steps
    show wpAny _ _ _ _ _ _
    refine' henc_call w p loose mean mg mb _ b (ks.map Int.toNat) tb t1 _ _ _ _ _ _ _ _ _ _ _ _ _ _ _ _ _ ?k1 ?k2 ?k3 ?k4 ?k5 ?kK ?kp ?kd ?ku ?kR
    (case k1 => k_asm)
    (case k2 => k_asm)
    (case k3 => k_asm)
    (case k4 => k_asm)
    (case k5 => k_asm)
    (case kK => exact rfl)
    (case kp => (refine ⟨hb, ?_⟩; rw [List.length_map]; omega))
    (case kd => ktr_room)
    (case ku => ktr_units)
    intro t9 h9 tk9 F9 N9
    dsimp only
    k_steps
    rename News _ _ _ _ => N8
    exact h _ _ t9 (by k_asm) (fun p hp => N8 p (.tail _ hp))
end
end
end Mine
end

section
open PySem PySem.W PyProof.Rows
set_option maxRecDepth 100000
set_option maxHeartbeats 8000000
namespace Mine
theorem off1_all {D : Addr} : ∀ {l : List (Addr × Obj)}, LCg.Off1 D l → ∀ q ∈ l, q.1 ≠ D
  | [], _, _, hq => by cases hq
  | p :: l, h, q, hq => by
    rcases List.mem_cons.mp hq with e | hq
    · rw [e]; exact h.1
    · exact off1_all h.2 q hq
theorem ne_of_lt_N {a b : Addr} (h : a < b) : a ≠ b := Nat.ne_of_lt h
section
local macro_rules | `(tactic| walk_at "CompSrc") => `(tactic| (k_here; k_dflt (show Stop _)))
local macro_rules | `(tactic| walk_at "call ref") => `(tactic| (k_here; k_dflt (show Stop _)))
local macro_rules | `(tactic| walk_at "ElRet") => `(tactic| (k_here; k_dflt (show Stop _)))
local macro_rules | `(tactic| walk_at "subscriptTail") => `(tactic| (k_here; k_dflt (refine' item_vals ?hl ?h0 ?h1 ?h2 ?_ ?hs; (case hl => (dsimp only [LCg.lst] at *; exact News.isList (by k_asm) (by k_mem))); (case h0 => omega); (case h1 => omega); (case h2 => assumption); (case hs => with_unfolding_all rfl))))
variable {w : World} {p : Program} {loose : List Str} {mean : ExcName → Option Value} {mg mb : Str → Option Value} {base h₀ : Heap} {L fa : Addr} {cd : Value} {m : Str → Option Value} {s : Shared} {Q : Flow → Shared → Prop} {E : Value → Shared → Prop}
theorem due_step {on : Obj} {n : Int} {tn : Tok} {D1 : Addr} {vs : List Value} {ks : List Int} {tl : List (Addr × Obj)}
  (K0 : Below callerA base [] h₀) (KX : (K39 w.params).In h₀) (T : Top p loose mean mg mb h₀)
  (F : Fr h₀ L s.heap (fun z => if z = Str.ofString "octets" then some (.ref D1) else m z))
  (N : News h₀ L s.heap ((L + 1 + 1 + 1, on) :: (D1, LCg.lst vs) :: tl))
  (d : on.data = .cell (some (.int n tn))) (hn : 1 ≤ n ∧ n ≤ 4) (hi : IntsAre vs ks) (hl : ks.length ≤ 200) (hr : ∀ k ∈ ks, 0 ≤ k ∧ k < 256)
  (h : ∀ h' tk D ys, Fr h₀ L h' (fun z => if z = Str.ofString "due" then some (.ref D) else if z = Str.ofString "octets" then some (.ref D1) else m z) → 
    StrsAre ys (ks.map fun k => strOf (fateN k.toNat n.toNat)) → (∀ q ∈ ((L + 1 + 1 + 1, on) :: (D1, LCg.lst vs) :: tl), q.1 ≠ D) →
    News h₀ L h' ((D, LCg.lst ys) :: (L + 1 + 1 + 1, on) :: (D1, LCg.lst vs) :: tl) → Q .next { s with heap := h', toks := tk }) :
  wpAny (model PySem.Challenge.rw_io0058_01.row.prog w) (callerA.deeper (envOfC "law" (fnScope lawS) L fa cd)) (exec (nthS loopB 1) (envOfC "law" (fnScope lawS) L fa cd)) Q E s := by
  dsimp only [loopB, lawB, forBody, lawS, PySem.Challenge.pw_io0058_01, nthS, fnBody, fnScope]
  revert KX; k_fill; intro KX
  refine LCg.Assign_ListComp_U (F₀ := by k_asm) (by rfl) (by with_unfolding_all rfl) (by with_unfolding_all rfl) (by decide) (by rfl) (by decide) (by rfl) (by rfl) (by rfl) ?_
  k_steps
  show LCg.CompSrc _ _ _ _ _ _ _ _ _ _ _ _ _ _
  refine' src_strs (fun k => fateN k.toNat n.toNat) ?hh ?F ?N ?hm ?hi ?hsz ?turn ?fin
  (case hh => rfl)
  (case F => k_asm)
  (case N => k_asm)
  (case hm => (dsimp only [LCg.lst]; news_mem))
  (case hi => assumption)
  (case hsz => omega)
  (case' turn => intro gh k t I oI C oC D m₂ ys h tk E' hkm hC hx F N)
  (case' fin => intro gh ys hys)
  case turn =>
    have hk2 := hr k hkm
    dsimp only
    k_steps
    show wpAny _ _ _ _ _ _
    refine' fate_call w p loose mean mg mb _ k n t tn _ _ _ _ _ _ _ _ _ _ _ _ _ _ _ _ _ ?k1 ?k2 ?k3 ?k4 ?k5 ?kK ?kp ?kd ?ku ?kR
    (case k1 => k_asm)
    (case k2 => k_asm)
    (case k3 => k_asm)
    (case k4 => k_asm)
    (case k5 => k_asm)
    (case kK => exact rfl)
    (case kp => (refine ⟨hk2.1, hk2.2, ?_, ?_⟩ <;> omega))
    (case kd => ktr_room)
    (case ku => ktr_units)
    intro t9 h9 tk9 F9 N9
    k_steps
    show ElRet _ _ _ _ _ _ _ _
    exact ElRet.mk rfl (by k_asm) (by k_asm) (fun p hp => hp)
  case fin =>
    k_steps
    rename News _ _ _ _ => N8
    rename _ ∧ _ ∧ LCg.Off1 _ _ => o8
    refine' h _ _ _ _ ?a hys ?b N8
    case a => k_asm
    case b =>
      intro q hq
      rcases List.mem_cons.mp hq with rfl | hq
      · exact o8.1
      · rcases List.mem_cons.mp hq with rfl | hq
        · exact o8.2.1
        · exact off1_all o8.2.2 q hq
def innB : List Stmt := forBody (nthS loopB 2)
theorem front_step {on oj : Obj} {n j : Int} {tn tj : Tok} {Dn : Addr} {nv : List Value} {ax : Addr} {vs : List Value} {ks : List Int} {tl : List (Addr × Obj)}
  (K0 : Below callerA base [] h₀) (KX : (K39 w.params).In h₀) (T : Top p loose mean mg mb h₀)
  (F : Fr h₀ L s.heap (fun z => if z = Str.ofString "names" then some (.ref Dn) else m z))
  (N : News h₀ L s.heap ((L + 1 + 1 + 1, on) :: (L + 1 + 1 + 1 + 1, oj) :: (Dn, LCg.lst nv) :: (ax, LCg.lst vs) :: tl))
  (d : on.data = .cell (some (.int n tn))) (dj : oj.data = .cell (some (.int j tj))) (hn : 1 ≤ n ∧ n ≤ 4) (hj : 1 ≤ j ∧ j ≤ n) (hv : nv[(j - 1).toNat]? = some (.ref ax)) (hi : IntsAre vs ks) (hk : ks.length ≤ 7) (hr : ∀ k ∈ ks, 0 ≤ k ∧ k < 256)
  (h : ∀ h' tk D ys, Fr h₀ L h' (fun z => if z = Str.ofString "front" then some (.ref D) else if z = Str.ofString "names" then some (.ref Dn) else m z) → 
    StrsAre ys (([61, 63] ++ ks ++ [63, 113, 63] : List Int).map fun k : Int => strOf (fateN k.toNat (n - j).toNat)) → 
    News h₀ L h' ((D, LCg.lst ys) :: (L + 1 + 1 + 1, on) :: (L + 1 + 1 + 1 + 1, oj) :: (Dn, LCg.lst nv) :: (ax, LCg.lst vs) :: tl) → Q .next { s with heap := h', toks := tk }) :
  wpAny (model PySem.Challenge.rw_io0058_01.row.prog w) (callerA.deeper (envOfC "law" (fnScope lawS) L fa cd)) (exec (nthS innB 0) (envOfC "law" (fnScope lawS) L fa cd)) Q E s := by
  dsimp only [innB, loopB, lawB, forBody, lawS, PySem.Challenge.pw_io0058_01, nthS, fnBody, fnScope]
  revert KX; k_fill; intro KX
  refine LCg.Assign_ListComp_U (F₀ := by k_asm) (by rfl) (by with_unfolding_all rfl) (by with_unfolding_all rfl) (by decide) (by rfl) (by decide) (by rfl) (by rfl) (by rfl) ?_
  k_steps
  show LCg.CompSrc _ _ _ _ _ _ _ _ _ _ _ _ _ _
  refine' src_strs (ks := [61, 63] ++ ks ++ [63, 113, 63]) (fun k => fateN k.toNat (n - j).toNat) ?hh ?F ?N ?hm ?hi ?hsz ?turn ?fin
  (case hh => rfl)
  (case F => k_asm)
  (case N => k_asm)
  (case hm => (dsimp only [LCg.lst]; news_mem))
  (case hi => assumption)
  (case hsz => (simp; omega))
  (case' turn => intro gh k t I oI C oC D m₂ ys h tk E' hkm hC hx F N)
  (case' fin => intro gh ys hys)
  case turn =>
    have hk2 : 0 ≤ k ∧ k < 256 := by
      simp only [List.mem_append, List.mem_cons, List.not_mem_nil, or_false] at hkm
      rcases hkm with ((rfl | rfl) | hkm) | rfl | rfl | rfl
      all_goals first | omega | exact hr k hkm
    dsimp only
    k_steps
    show wpAny _ _ _ _ _ _
    refine' fate_call w p loose mean mg mb _ k (n - j) t _ _ _ _ _ _ _ _ _ _ _ _ _ _ _ _ _ _ ?k1 ?k2 ?k3 ?k4 ?k5 ?kK ?kp ?kd ?ku ?kR
    (case k1 => k_asm)
    (case k2 => k_asm)
    (case k3 => k_asm)
    (case k4 => k_asm)
    (case k5 => k_asm)
    (case kK => exact rfl)
    (case kp => (refine ⟨hk2.1, hk2.2, ?_, ?_⟩ <;> omega))
    (case kd => ktr_room)
    (case ku => ktr_units)
    intro t9 h9 tk9 F9 N9
    k_steps
    show ElRet _ _ _ _ _ _ _ _
    exact ElRet.mk rfl (by k_asm) (by k_asm) (fun p hp => hp)
  case fin =>
    k_steps
    rename News _ _ _ _ => N8
    refine h _ _ _ _ (by k_asm) hys (fun p hp => N8 p ?_)
    rcases List.mem_cons.mp hp with rfl | hp
    · exact .head _
    · exact .tail _ (.tail _ (.tail _ (.tail _ (.tail _ hp))))
section
local macro_rules | `(tactic| walk_at "binaryOp Add ref ref") => `(tactic| (k_here; k_dflt (show Stop _)))
local macro_rules | `(tactic| walk_at "eval ListComp") => `(tactic| (k_here; k_dflt (show Stop _)))
theorem add_step {on oj : Obj} {n j : Int} {tn tj : Tok} {Df Dd : Addr} {vf vd : List Value} {lf ld : List Str} {kd : Nat} {tl : List (Addr × Obj)}
  (K0 : Below callerA base [] h₀) (KX : (K39 w.params).In h₀) (T : Top p loose mean mg mb h₀)
  (F : Fr h₀ L s.heap (fun z => if z = Str.ofString "front" then some (.ref Df) else if z = Str.ofString "due" then some (.ref Dd) else m z))
  (N : News h₀ L s.heap ((L + 1 + 1 + 1, on) :: (L + 1 + 1 + 1 + 1, oj) :: (Df, LCg.lst vf) :: (Dd, W.listOf vd.toArray kd) :: tl))
  (d : on.data = .cell (some (.int n tn))) (dj : oj.data = .cell (some (.int j tj))) (hn : 1 ≤ n ∧ n ≤ 4) (hj : 1 ≤ j ∧ j ≤ n) (hf : StrsAre vf lf) (hd : StrsAre vd ld) (hlf : lf.length ≤ 1000) (hld : ld.length ≤ 1000)
  (h : ∀ h' tk D ys, Fr h₀ L h' (fun z => if z = Str.ofString "due" then some (.ref D) else if z = Str.ofString "front" then some (.ref Df) else if z = Str.ofString "due" then some (.ref Dd) else m z) → 
    StrsAre ys (lf ++ ld ++ ([63, 61].map fun k : Int => strOf (fateN k.toNat (n - j).toNat))) → (∀ q ∈ ((L + 1 + 1 + 1, on) :: (L + 1 + 1 + 1 + 1, oj) :: tl), q.1 ≠ D) →
    News h₀ L h' ((D, W.listOf ys.toArray 0) :: (L + 1 + 1 + 1, on) :: (L + 1 + 1 + 1 + 1, oj) :: tl) → Q .next { s with heap := h', toks := tk }) :
  wpAny (model PySem.Challenge.rw_io0058_01.row.prog w) (callerA.deeper (envOfC "law" (fnScope lawS) L fa cd)) (exec (nthS innB 1) (envOfC "law" (fnScope lawS) L fa cd)) Q E s := by
  dsimp only [innB, loopB, lawB, forBody, lawS, PySem.Challenge.pw_io0058_01, nthS, fnBody, fnScope]
  revert KX; k_fill; intro KX
  k_steps
  show wpAny _ _ _ _ _ _
  refine' kmk_add_lit (its := vf.toArray) (its2 := vd.toArray) (zs := vf ++ vd) ?F ?N ?a ?b ?e ?_ ?z
  (case F => k_asm)
  (case N => k_asm)
  (case a => (dsimp only [LCg.lst] at *; exact News.isList (by k_asm) (by k_mem)))
  (case b => (dsimp only [LCg.lst] at *; exact News.isList (by k_asm) (by k_mem)))
  (case e => rfl)
  (case z => (have := hf.length; have := hd.length; simp only [List.toList_toArray, sizeLine_eq]; omega))
  intro D1 h1 F1 N1 l1
  k_steps
  show wpAny _ _ _ _ _ _
  refine LCg.ListComp_U (F₀ := by k_asm) (by with_unfolding_all rfl) (by decide) (by rfl) (by decide) (by rfl) ?_
  k_steps
  show LCg.CompSrc _ _ _ _ _ _ _ _ _ _ _ _ _ _
  refine' src_strs (ks := [63, 61]) (fun k => fateN k.toNat (n - j).toNat) ?hh ?F ?N ?hm ?hi ?hsz ?turn ?fin
  (case hh => rfl)
  (case F => k_asm)
  (case N => k_asm)
  (case hm => (dsimp only [LCg.lst]; k_mem))
  (case hi => exact .cons _ _ (.cons _ _ .nil))
  (case hsz => simp)
  (case' turn => intro gh k t I oI C oC D m₂ ys h tk E' hkm hC hx F N)
  (case' fin => intro gh ys hys)
  case turn =>
    have hk2 : 0 ≤ k ∧ k < 256 := by
      simp only [List.mem_cons, List.not_mem_nil, or_false] at hkm
      rcases hkm with rfl | rfl <;> omega
    dsimp only
    k_steps
    show wpAny _ _ _ _ _ _
    refine' fate_call w p loose mean mg mb _ k (n - j) t _ _ _ _ _ _ _ _ _ _ _ _ _ _ _ _ _ _ ?k1 ?k2 ?k3 ?k4 ?k5 ?kK ?kp ?kd ?ku ?kR
    (case k1 => k_asm)
    (case k2 => k_asm)
    (case k3 => k_asm)
    (case k4 => k_asm)
    (case k5 => k_asm)
    (case kK => exact rfl)
    (case kp => (refine ⟨hk2.1, hk2.2, ?_, ?_⟩ <;> omega))
    (case kd => ktr_room)
    (case ku => ktr_units)
    intro t9 h9 tk9 F9 N9
    k_steps
    show ElRet _ _ _ _ _ _ _ _
    exact ElRet.mk rfl (by k_asm) (by k_asm) (fun p hp => hp)
  case fin =>
    k_steps
    show wpAny _ _ _ _ _ _
    rename News _ _ _ _ => N7
    refine' kmk_add_lit (its := (vf ++ vd).toArray) (its2 := ys.toArray) (zs := vf ++ vd ++ ys) ?F ?N ?a ?b ?e ?_ ?z
    (case F => k_asm)
    (case N => exact N7)
    (case a => (dsimp only [LCg.lst] at *; exact News.isList N7 (by k_mem)))
    (case b => (dsimp only [LCg.lst] at *; exact News.isList N7 (by k_mem)))
    (case e => rfl)
    (case z => (have := hf.length; have := hd.length; have := hys.length; simp only [sizeLine_eq, List.length_append, List.length_cons, List.length_nil, List.length_map] at *; omega))
    intro D9 h9 F9 N9 l9
    k_steps
    rename News _ _ _ _ => N8
    have e9 : StrsAre (vf ++ vd ++ ys) (lf ++ ld ++ ([63, 61].map fun k : Int => strOf (fateN k.toNat (n - j).toNat))) := StrsAre.append' (StrsAre.append' hf hd) hys
    refine' h _ _ D9 (vf ++ vd ++ ys) ?a e9 ?b ?c
    case a => k_asm
    case b =>
      intro q hq
      refine ne_of_lt_N (l9 q ?_)
      rcases List.mem_cons.mp hq with rfl | hq
      · k_mem
      · rcases List.mem_cons.mp hq with rfl | hq
        · k_mem
        · exact .tail _ (.tail _ (.tail _ (.tail _ (.tail _ (.tail _ (.tail _ hq))))))
    case c =>
      intro q hq
      refine N8 q ?_
      rcases List.mem_cons.mp hq with rfl | hq
      · k_mem
      · rcases List.mem_cons.mp hq with rfl | hq
        · k_mem
        · rcases List.mem_cons.mp hq with rfl | hq
          · k_mem
          · exact .tail _ (.tail _ (.tail _ (.tail _ (.tail _ (.tail _ (.tail _ (.tail _ hq)))))))
end
end
end Mine
end

section
open PySem PySem.W PyProof.Rows
set_option maxRecDepth 100000
set_option maxHeartbeats 8000000
namespace Mine
section
variable {w : World} {p : Program} {loose : List Str} {mean : ExcName → Option Value} {mg mb : Str → Option Value} {base h₀ : Heap} {L fa : Addr} {cd : Value} {m : Str → Option Value} {s : Shared} {Q : Flow → Shared → Prop} {E : Value → Shared → Prop}
theorem rng_ok (n : Int) (h : 1 ≤ n ∧ n ≤ 4) : Builtin.Range.small 1 (n + 1) 1 = true ∧ Builtin.Range.rangeSize 1 (n + 1) 1 = ((n.toNat : Nat) : Int) := by
  have : n = 1 ∨ n = 2 ∨ n = 3 ∨ n = 4 := by omega
  rcases this with rfl | rfl | rfl | rfl <;> decide
theorem fr_at {h₀ h : Heap} {L : Addr} {m : Str → Option Value} {x : Str} {v : Option Value} (F : Fr h₀ L h m) (e : m x = v) : Fr h₀ L h (fun z => if z = x then v else m z) := by
  have : (fun z => if z = x then v else m z) = m := by
    funext z
    by_cases q : z = x
    · rw [if_pos q, q, e]
    · rw [if_neg q]
  rw [this]; exact F
theorem news_dup {h₀ h : Heap} {L : Addr} {l l' : List (Addr × Obj)} {q : Addr × Obj} (N : News h₀ L h l) (hq : q ∈ l) (N' : News h₀ L h l') : News h₀ L h (q :: l') := fun p hp => by
  rcases List.mem_cons.mp hp with e | hp
  · rw [e]; exact N q hq
  · exact N' p hp
theorem stop_post {α : Type} {M : Model} {A : Around} {f : Sem α} {Q : α → Shared → Prop} {E : Value → Shared → Prop} {s : Shared} (h : wpAny M A f (fun x s => Stop (Q x s)) E s) : wpAny M A f Q E s := h
theorem unstop {P : Prop} (h : P) : Stop P := h
/-- the names' lists: what the ledger keeps of them -/
def NamesIn (Dn : Addr) (kl : Nat → List Int) (keep : List (Addr × Obj)) : Prop :=
  ∃ nv, (Dn, LCg.lst nv) ∈ keep ∧ ∀ i < 4, ∃ ax vs, nv[i]? = some (.ref ax) ∧ (ax, LCg.lst vs) ∈ keep ∧ IntsAre vs (kl i) ∧ (kl i).length ≤ 7 ∧ ∀ k ∈ kl i, 0 ≤ k ∧ k < 256
def nmOf (kl : Nat → List Int) (i : Nat) : List Nat := (kl i).map Int.toNat
/-- the due texts after j inner turns -/
def dueL (oc : List Int) (kl : Nat → List Int) (n : Nat) : Nat → List (List Nat)
  | 0 => oc.map fun k => fateN k.toNat n
  | j + 1 => (([61, 63] ++ kl j ++ [63, 113, 63] : List Int).map fun k => fateN k.toNat (n - (j + 1))) ++ dueL oc kl n j ++ ([63, 61] : List Int).map fun k => fateN k.toNat (n - (j + 1))
theorem dueL_flat (oc : List Int) (kl : Nat → List Int) (n : Nat) : ∀ j, (dueL oc kl n j).flatten = dueN (oc.map Int.toNat) (nmOf kl) n j
  | 0 => by simp [dueL, dueN, fates, List.flatMap_def, Function.comp_def]
  | j + 1 => by
    have ih := dueL_flat oc kl n j
    simp [dueL, dueN, fates, List.flatMap_def, nmOf, ih, Function.comp_def]
theorem dueL_len (oc : List Int) (kl : Nat → List Int) (n : Nat) (hk : ∀ i < 4, (kl i).length ≤ 7) : ∀ j ≤ 4, (dueL oc kl n j).length ≤ oc.length + 14 * j
  | 0, _ => by simp [dueL]
  | j + 1, h => by
    have ih := dueL_len oc kl n hk j (by omega)
    have := hk j (by omega)
    simp only [dueL, List.length_append, List.length_map, List.length_cons, List.length_nil]
    omega
def J1 (oc : List Int) (kl : Nat → List Int) (n : Int) (g0 : Str → Option Value) (j : Nat) (m₁ : Str → Option Value) (var : List (Addr × Obj)) : Prop :=
  ∃ Dd vd kd, var = [(Dd, W.listOf (List.toArray vd) kd)] ∧ m₁ (Str.ofString "due") = some (.ref Dd) ∧ StrsAre vd ((dueL oc kl n.toNat j).map strOf) ∧ (∀ z, z ≠ Str.ofString "due" → z ≠ Str.ofString "front" → m₁ z = g0 z)
theorem inner_step {on oj : Obj} {vj : Option Value} {n : Int} {tn : Tok} {Dn Dd : Addr} {vd : List Value} {kd : Nat} {oc : List Int} {kl : Nat → List Int} {keep : List (Addr × Obj)}
  (K0 : Below callerA base [] h₀) (KX : (K39 w.params).In h₀) (T : Top p loose mean mg mb h₀)
  (F : Fr h₀ L s.heap m) (m1 : m (Str.ofString "due") = some (.ref Dd)) (m2 : m (Str.ofString "names") = some (.ref Dn))
  (N : News h₀ L s.heap ((L + 1 + 1 + 1 + 1, oj) :: (Dd, W.listOf (List.toArray vd) kd) :: (L + 1 + 1 + 1, on) :: keep))
  (off : ∀ q ∈ ((Dd, W.listOf (List.toArray vd) kd) :: keep), q.1 ≠ L + 1 + 1 + 1 + 1)
  (d : on.data = .cell (some (.int n tn))) (dj : oj.data = .cell vj) (hn : 1 ≤ n ∧ n ≤ 4) (hN : NamesIn Dn kl keep) (hK : ∀ i < 4, (kl i).length ≤ 7) (hoc : oc.length ≤ 200) (hd : StrsAre vd ((dueL oc kl n.toNat 0).map strOf))
  (h : ∀ h' tk m' oj' vj' Dd' vd' kd', Fr h₀ L h' m' → m' (Str.ofString "due") = some (.ref Dd') → (∀ z, z ≠ Str.ofString "due" → z ≠ Str.ofString "front" → m' z = m z) → StrsAre vd' ((dueL oc kl n.toNat n.toNat).map strOf) → oj'.data = .cell vj' →
    News h₀ L h' ((L + 1 + 1 + 1 + 1, oj') :: (Dd', W.listOf (List.toArray vd') kd') :: (L + 1 + 1 + 1, on) :: keep) → Q .next { s with heap := h', toks := tk }) :
  wpAny (model PySem.Challenge.rw_io0058_01.row.prog w) (callerA.deeper (envOfC "law" (fnScope lawS) L fa cd)) (exec (nthS loopB 2) (envOfC "law" (fnScope lawS) L fa cd)) Q E s := by
  dsimp only [loopB, lawB, forBody, lawS, PySem.Challenge.pw_io0058_01, nthS, fnBody, fnScope]
  revert KX; k_fill; intro KX
  refine For_cell (h₀ := h₀) (L := L) (c := L + 1 + 1 + 1 + 1) rfl rfl rfl rfl (stop_post ?_)
  k_steps
  refine unstop ?_
  rename_i hr F2 N2 _
  obtain ⟨hsm, hsz⟩ := rng_ok n hn
  refine ⟨_, 1, n + 1, _, _, _, n.toNat, (L + 1 + 1 + 1, on) :: keep, [(Dd, W.listOf (List.toArray vd) kd)], m, oj, vj, J1 oc kl n m, rfl, rfl, F2, N2, dj, ?off, hr, hsm, hsz, ?j0, ?turn, ?done⟩
  case off =>
    intro q hq
    rcases List.mem_cons.mp hq with e | hq
    · exact off q (by rw [e]; exact .head _)
    · rcases List.mem_cons.mp hq with e | hq
      · rw [e]; exact neN (a := L + 1 + 1 + 1) (b := L + 1 + 1 + 1 + 1) (by omega)
      · exact off q (.tail _ hq)
  case j0 => exact ⟨Dd, vd, kd, rfl, m1, hd, fun _ _ _ => rfl⟩
  case done =>
    rintro m₁ o v var tk h1 ⟨Dd', vd', kd', rfl, e1, e2, e3⟩ hdo F3 N3
    exact h _ _ _ _ _ _ _ _ F3 e1 e3 e2 hdo N3
  case turn =>
    rintro i hi m₁ I oI o var tk h1 t E' ⟨Dd', vd', kd', rfl, e1, e2, e3⟩ hdo F3 N3 offI hIc
    obtain ⟨nv, hnv, hax⟩ := hN
    have hi4 : i < 4 := by omega
    obtain ⟨ax, vs, hv, hax, hia, hl7, hr7⟩ := hax i hi4
    have hnm : m₁ (Str.ofString "names") = some (.ref Dn) := (e3 _ (by decide) (by decide)).trans m2
    have e0 : ((1 : Int) + (i : Int) - 1).toNat = i := by omega
    have full : ∀ q ∈ keep, q ∈ ((L + 1 + 1 + 1 + 1, o) :: ([(Dd', W.listOf (List.toArray vd') kd')] ++ (I, oI) :: (L + 1 + 1 + 1, on) :: keep)) := fun q hq => .tail _ (.tail _ (.tail _ (.tail _ hq)))
    refine wpAny_execs_cons (front_step (n := n) (j := 1 + (i : Int)) (on := on) (oj := o) (nv := nv) (ax := ax) (vs := vs) (ks := kl i) K0 KX T (fr_at F3 hnm)
      (news_dup N3 (by k_mem) (news_dup N3 (by k_mem) (news_dup N3 (full _ hnv) (news_dup N3 (full _ hax) N3)))) d hdo hn (by omega) (by rw [e0]; exact hv) hia hl7 hr7 ?_)
    intro h2 tk2 Df yf F4 hyf N4
    show wpAny _ _ (execs _ _) _ _ _
    have F5 : Fr h₀ L h2 (fun z => if z = Str.ofString "front" then some (.ref Df) else if z = Str.ofString "due" then some (.ref Dd') else (fun z => if z = Str.ofString "front" then some (Value.ref Df) else if z = Str.ofString "names" then some (Value.ref Dn) else m₁ z) z) := by
      refine fr_at (fr_at F4 ?_) ?_
      · show (if _ then _ else if _ then _ else _) = _
        rw [if_neg (by decide), if_neg (by decide)]; exact e1
      · show (if _ then _ else if _ then _ else _) = _
        rw [if_neg (by decide), if_pos rfl]
    have N5 := fun q hq => N4 q (.tail _ (.tail _ (.tail _ (.tail _ (.tail _ hq)))))
    have e10 : (n - (1 + (i : Int))).toNat = n.toNat - (i + 1) := by omega
    have hl1 : ((([61, 63] ++ kl i ++ [63, 113, 63] : List Int).map fun k : Int => strOf (fateN k.toNat (n - (1 + (i : Int))).toNat))).length ≤ 1000 := by
      simp only [List.length_map, List.length_append, List.length_cons, List.length_nil]; omega
    have hl2 : ((dueL oc kl n.toNat i).map strOf).length ≤ 1000 := by
      rw [List.length_map]
      have := dueL_len oc kl n.toNat hK i (by omega)
      omega
    refine wpAny_execs_cons (add_step (n := n) (j := 1 + (i : Int)) (on := on) (oj := o) (Df := Df) (Dd := Dd') K0 KX T F5
      (news_dup N4 (by k_mem) (news_dup N4 (by k_mem) (news_dup N4 (by k_mem) (news_dup N5 (.tail _ (.head _)) N5)))) d hdo hn (by omega) hyf e2 hl1 hl2 ?_)
    intro h3 tk3 D9 y9 F9 hy9 off9 N9
    show wpAny _ _ (execs _ _) _ _ _
    refine wpAny_execs_nil ?_
    have off10 : ∀ q ∈ (I, oI) :: (L + 1 + 1 + 1 + 1, o) :: [], q.1 ≠ D9 := fun q hq => by
      rcases List.mem_cons.mp hq with e | hq
      · exact off9 q (by rw [e]; k_mem)
      · rw [List.mem_singleton.mp hq]; exact off9 (L + 1 + 1 + 1 + 1, o) (by k_mem)
    refine ⟨h3, tk3, _, o, _, [(D9, W.listOf (List.toArray y9) 0)], rfl, F9, fun q hq => N9 q ?_, hdo, ?_, D9, y9, 0, rfl, ?_, ?_, ?_⟩
    · rcases List.mem_cons.mp hq with e | hq
      · rw [e]; k_mem
      · rcases List.mem_cons.mp hq with e | hq
        · rw [e]; k_mem
        · exact .tail _ (.tail _ (.tail _ (.tail _ (.tail _ hq))))
    · intro q hq
      rw [List.mem_singleton.mp hq]
      exact ⟨fun e => off10 (L + 1 + 1 + 1 + 1, o) (by k_mem) e.symm, fun e => off10 (I, oI) (by k_mem) e.symm⟩
    · exact if_pos rfl
    · rw [e10] at hy9
      simp only [dueL, List.map_append, List.map_map]
      simpa only [List.map_append, List.map_map, Function.comp_def] using hy9
    · intro z z1 z2
      show (if _ then _ else if _ then _ else if _ then _ else _) = _
      rw [if_neg z1, if_neg z2, if_neg z1]
      show (if _ then _ else if _ then _ else _) = _
      rw [if_neg z2]
      by_cases z3 : z = Str.ofString "names"
      · rw [if_pos z3, z3, m2]
      · rw [if_neg z3]; exact e3 z z1 z2
end
end Mine
end

section
open PySem PySem.W PyProof.Rows
set_option maxRecDepth 100000
set_option maxHeartbeats 8000000
namespace Mine
theorem ints_snoc {y : Int} {t : Tok} : ∀ {vs : List Value} {ys : List Int}, IntsAre vs ys → IntsAre (vs ++ [.int y t]) (ys ++ [y])
  | _, _, .nil => .cons y t .nil
  | _, _, .cons z u r => .cons z u (ints_snoc r)
section
local macro_rules | `(tactic| walk_at "call builtin:ord") => `(tactic| (k_here; k_dflt (show Stop _)))
local macro_rules | `(tactic| walk_at "call type:bytes") => `(tactic| (k_here; k_dflt (show Stop _)))
local macro_rules | `(tactic| walk_at "call builtin:str.join") => `(tactic| (k_here; k_dflt (show Stop _)))
local macro_rules | `(tactic| walk_at "eval ListComp") => `(tactic| (k_here; k_dflt (show Stop _)))
variable {w : World} {p : Program} {loose : List Str} {mean : ExcName → Option Value} {mg mb : Str → Option Value} {base h₀ : Heap} {L fa : Addr} {cd : Value} {m : Str → Option Value} {s : Shared} {Q : Flow → Shared → Prop} {E : Value → Shared → Prop}
theorem if_step {D1 Dd : Addr} {vs vd : List Value} {kd : Nat} {oc : List Int} {ls : List (List Nat)} {tl : List (Addr × Obj)}
  (K0 : Below callerA base [] h₀) (KX : (K39 w.params).In h₀) (T : Top p loose mean mg mb h₀)
  (F : Fr h₀ L s.heap (fun z => if z = Str.ofString "octets" then some (.ref D1) else if z = Str.ofString "due" then some (.ref Dd) else m z))
  (N : News h₀ L s.heap ((D1, LCg.lst vs) :: (Dd, W.listOf (List.toArray vd) kd) :: tl))
  (hi : IntsAre vs oc) (hl : oc.length ≤ 200) (hd : StrsAre vd (ls.map strOf))
  (h : ∀ h' tk m' D v k, Fr h₀ L h' m' → m' (Str.ofString "due") = some (.ref D) → (∀ z, z ≠ Str.ofString "due" → m' z = (fun z => if z = Str.ofString "octets" then some (.ref D1) else if z = Str.ofString "due" then some (.ref Dd) else m z) z) → StrsAre v ((if oc = [] then [] else ls).map strOf) →
    News h₀ L h' ((D, W.listOf (List.toArray v) k) :: tl) → Q .next { s with heap := h', toks := tk }) :
  wpAny (model PySem.Challenge.rw_io0058_01.row.prog w) (callerA.deeper (envOfC "law" (fnScope lawS) L fa cd)) (exec (nthS loopB 3) (envOfC "law" (fnScope lawS) L fa cd)) Q E s := by
  dsimp only [loopB, lawB, forBody, lawS, PySem.Challenge.pw_io0058_01, nthS, fnBody, fnScope]
  revert KX; k_fill; intro KX
  k_steps
  · rename (_ : Bool) = true => hc
    rename News _ _ _ _ => N8
    have hc : oc = [] := of_decide_eq_true hc
    refine' h _ _ _ _ [] 0 ?a ?b ?c ?d ?e
    case a => k_asm
    case b => exact if_pos rfl
    case c => exact fun z hz => if_neg hz
    case d => rw [if_pos hc]; exact .nil
    case e =>
      intro q hq
      rcases List.mem_cons.mp hq with e | hq
      · rw [e]; exact N8 _ (.head _)
      · exact N8 q (.tail _ (.tail _ (.tail _ (.tail _ hq))))
  · rename (_ : Bool) = false => hc
    rename News _ _ _ _ => N8
    have hc : oc ≠ [] := of_decide_eq_false hc
    refine' h _ _ _ Dd vd kd ?a ?b ?c ?d ?e
    case a => k_asm
    case b => exact (if_neg (by decide)).trans (if_pos rfl)
    case c => exact fun z hz => rfl
    case d => rw [if_neg hc]; exact hd
    case e => exact fun q hq => N8 q (.tail _ (.tail _ hq))
theorem cmp_step {Dd : Addr} {vd : List Value} {kd : Nat} {ls : List (List Nat)} {tt : Tok} {tl : List (Addr × Obj)}
  (K0 : Below callerA base [] h₀) (KX : (K39 w.params).In h₀) (T : Top p loose mean mg mb h₀)
  (F : Fr h₀ L s.heap (fun z => if z = Str.ofString "told" then some (.str (strOf ls.flatten) tt) else if z = Str.ofString "due" then some (.ref Dd) else m z))
  (N : News h₀ L s.heap ((Dd, W.listOf (List.toArray vd) kd) :: tl)) (hd : StrsAre vd (ls.map strOf)) (hsz : ls.flatten.length ≤ 100000)
  (h : ∀ tk, Q .next { s with toks := tk }) :
  wpAny (model PySem.Challenge.rw_io0058_01.row.prog w) (callerA.deeper (envOfC "law" (fnScope lawS) L fa cd)) (exec (nthS loopB 4) (envOfC "law" (fnScope lawS) L fa cd)) Q E s := by
  dsimp only [loopB, lawB, forBody, lawS, PySem.Challenge.pw_io0058_01, nthS, fnBody, fnScope]
  revert KX; k_fill; intro KX
  k_steps
  show wpAny _ _ _ _ _ _
  refine' join_strs (ls := ls) ?hl hd ?hz ?_
  case hl => exact News.isList (by k_asm) (by k_mem)
  case hz => omega
  intro t1 k1
  k_steps
  · rename (_ : Bool) = true => hc
    simp at hc
  · exact h _
theorem text_step {l : List Nat} {tt : Tok} {tl : List (Addr × Obj)}
  (K0 : Below callerA base [] h₀) (KX : (K39 w.params).In h₀) (T : Top p loose mean mg mb h₀)
  (F : Fr h₀ L s.heap (fun z => if z = Str.ofString "told" then some (.str (strOf l) tt) else m z))
  (N : News h₀ L s.heap tl) (hsz : l.length ≤ 100000) (hlt : ∀ c ∈ l, c < 256)
  (h : ∀ h' tk tb, Fr h₀ L h' (fun z => if z = Str.ofString "text" then some (.bytes (l.map UInt8.ofNat).toArray tb) else if z = Str.ofString "told" then some (.str (strOf l) tt) else m z) → News h₀ L h' tl → Q .next { s with heap := h', toks := tk }) :
  wpAny (model PySem.Challenge.rw_io0058_01.row.prog w) (callerA.deeper (envOfC "law" (fnScope lawS) L fa cd)) (exec (nthS loopB 5) (envOfC "law" (fnScope lawS) L fa cd)) Q E s := by
  dsimp only [loopB, lawB, forBody, lawS, PySem.Challenge.pw_io0058_01, nthS, fnBody, fnScope]
  revert KX; k_fill; intro KX
  k_steps
  show wpAny _ _ _ _ _ _
  refine ListComp_str (F₀ := by k_asm) (by with_unfolding_all rfl) (by decide) (by rfl) (by decide) (by rfl) (stop_post ?_)
  k_steps
  refine unstop ?_
  refine ⟨strOf l, tt, tl, rfl, rfl, by k_asm, by k_asm, by (simp only [strOf, List.size_toArray, sizeLine_eq]; omega), fun g => ?_⟩
  have hn : (strOf l).cps.size = l.length := by simp [strOf]
  refine rest_gen (fun i ys => IntsAre ys ((l.map Int.ofNat).take i)) .nil trivial ?turn ?fin
  case turn =>
    intro i v ys I oI C oC D m₂ h tk E' hi hv hy hC hx F N
    obtain ⟨c, u, hc, rfl⟩ := hv
    have hc : l[i]? = some c := by simpa [strOf] using hc
    dsimp only
    refine stop_post ?_
    k_steps
    show wpAny _ _ _ _ _ _
    refine ord_of_one rfl ?_
    k_steps
    refine unstop ?_
    refine ⟨_, _, rfl, by k_asm, by k_asm, ?_⟩
    have e : (l.map Int.ofNat).take (i + 1) = (l.map Int.ofNat).take i ++ [(c : Int)] := by
      rw [List.take_add_one, List.getElem?_map, hc]; rfl
    rw [e]
    exact ints_snoc hy
  case fin =>
    intro ys hys
    rw [hn, ← List.length_map (as := l) (f := Int.ofNat), List.take_length] at hys
    k_steps
    show wpAny _ _ _ _ _ _
    rename News _ _ _ _ => N7
    refine' bytes_K (ns := l.map Int.ofNat) ?F N7 ?hl hys ?hr ?hz rfl ?_
    case F => k_asm
    case hl => (dsimp only [LCg.lst] at *; exact News.isList N7 (by k_mem))
    case hr =>
      intro n hn
      obtain ⟨c, hc, rfl⟩ := List.mem_map.mp hn
      have := hlt c hc
      show 0 ≤ (c : Int) ∧ (c : Int) < 256
      omega
    case hz => (have := hys.length; rw [List.length_map] at this; rw [this, sizeLine_eq]; omega)
    intro h9 t9 k9 F9 N9 _
    have e : ((l.map Int.ofNat).map fun n => n.toNat.toUInt8) = l.map UInt8.ofNat := by rw [List.map_map]; rfl
    rw [e]
    k_steps
    rename News _ _ _ _ => N8
    exact h _ _ t9 (by k_asm) (fun q hq => N8 q (.tail _ hq))
end
end Mine
end

section
open PySem PySem.W PyProof.Rows
set_option maxRecDepth 100000
set_option maxHeartbeats 8000000
namespace Mine
section
variable {w : World} {p : Program} {loose : List Str} {mean : ExcName → Option Value} {mg mb : Str → Option Value} {base h₀ : Heap} {L fa : Addr} {cd : Value} {m : Str → Option Value} {s : Shared} {Q : Flow → Shared → Prop} {E : Value → Shared → Prop}
def wordB (oc : List Int) (kl : Nat → List Int) (n : Nat) : List UInt8 := (wordN (oc.map Int.toNat) (nmOf kl) n).map UInt8.ofNat
theorem nat_lt {ks : List Int} (h : ∀ k ∈ ks, 0 ≤ k ∧ k < 256) : ∀ c ∈ ks.map Int.toNat, c < 256 := by
  intro c hc
  obtain ⟨k, hk, rfl⟩ := List.mem_map.mp hc
  have := h k hk
  omega
theorem nm_lt {kl : Nat → List Int} (h : ∀ i < 4, ∀ k ∈ kl i, 0 ≤ k ∧ k < 256) (h0 : ∀ i, 4 ≤ i → kl i = []) : ∀ j, ∀ c ∈ nmOf kl j, c < 256 := by
  intro j
  by_cases q : j < 4
  · exact nat_lt (h j q)
  · unfold nmOf; rw [h0 j (by omega)]; intro c hc; cases hc
theorem nm_len {kl : Nat → List Int} (h : ∀ i < 4, (kl i).length ≤ 7) (h0 : ∀ i, 4 ≤ i → kl i = []) : ∀ j, (nmOf kl j).length ≤ 7 := by
  intro j
  unfold nmOf
  rw [List.length_map]
  by_cases q : j < 4
  · exact h j q
  · rw [h0 j (by omega)]; simp
theorem word_bound {oc : List Int} {kl : Nat → List Int} (ho : oc.length ≤ 200) (h : ∀ i < 4, (kl i).length ≤ 7) (h0 : ∀ i, 4 ≤ i → kl i = []) (n : Nat) (hn : n ≤ 4) : (wordN (oc.map Int.toNat) (nmOf kl) n).length ≤ 100000 := by
  have := word_len (oc.map Int.toNat) (nmOf kl) (nm_len h h0) n
  rw [List.length_map] at this
  have e : 3 ^ n ≤ 81 := Nat.le_trans (Nat.pow_le_pow_right (by omega) hn) (by decide)
  have := Nat.mul_le_mul e (show oc.length + 7 ≤ 207 by omega)
  omega
theorem bytes_back {l : List Nat} (h : ∀ c ∈ l, c < 256) : (l.map UInt8.ofNat).map UInt8.toNat = l := by
  rw [List.map_map]
  conv => rhs; rw [← List.map_id l]
  refine List.map_congr_left fun c hc => ?_
  have := h c hc
  simp only [Function.comp, UInt8.toNat_ofNat', id_eq]
  omega
def J2 (Dn D1 : Addr) (oc : List Int) (kl : Nat → List Int) (i : Nat) (m₁ : Str → Option Value) (var : List (Addr × Obj)) : Prop :=
  ∃ oj vj tb, var = [(L + 1 + 1 + 1 + 1, oj)] ∧ oj.data = .cell vj ∧ m₁ (Str.ofString "octets") = some (.ref D1) ∧ m₁ (Str.ofString "names") = some (.ref Dn) ∧ m₁ (Str.ofString "text") = some (.bytes (wordB oc kl i).toArray tb)
theorem NamesIn.mono {Dn : Addr} {kl : Nat → List Int} {l l' : List (Addr × Obj)} (h : NamesIn Dn kl l) (hs : ∀ q ∈ l, q ∈ l') : NamesIn Dn kl l' := by
  obtain ⟨nv, h1, h2⟩ := h
  refine ⟨nv, hs _ h1, fun i hi => ?_⟩
  obtain ⟨ax, vs, g1, g2, g3⟩ := h2 i hi
  exact ⟨ax, vs, g1, hs _ g2, g3⟩
theorem due_flat (oc : List Int) (kl : Nat → List Int) (n : Nat) (ho : ∀ c ∈ oc.map Int.toNat, c < 256) (hn : ∀ j, ∀ c ∈ nmOf kl j, c < 256) :
    ((if oc = [] then [] else dueL oc kl n n) : List (List Nat)).flatten = wordN (oc.map Int.toNat) (nmOf kl) n := by
  by_cases q : oc = []
  · rw [if_pos q, q]; exact (word_nil _ _).symm
  · rw [if_neg q, dueL_flat]
    exact (due_word (oc.map Int.toNat) (nmOf kl) (by simpa using q) ho hn n).1
theorem outer_step {on oj : Obj} {vn vj : Option Value} {a : Int} {ta : Tok} {of_ : Obj} {Dn D1 : Addr} {vs : List Value} {oc : List Int} {kl : Nat → List Int} {keep : List (Addr × Obj)} {tb : Tok}
  (K0 : Below callerA base [] h₀) (KX : (K39 w.params).In h₀) (T : Top p loose mean mg mb h₀)
  (F : Fr h₀ L s.heap m) (m1 : m (Str.ofString "octets") = some (.ref D1)) (m2 : m (Str.ofString "names") = some (.ref Dn)) (m3 : m (Str.ofString "text") = some (.bytes (wordB oc kl 0).toArray tb))
  (N : News h₀ L s.heap ((L + 1 + 1 + 1, on) :: (L + 1 + 1 + 1 + 1, oj) :: (L + 1, of_) :: keep))
  (off : ∀ q ∈ keep, q.1 ≠ L + 1 + 1 + 1 ∧ q.1 ≠ L + 1 + 1 + 1 + 1)
  (d : on.data = .cell vn) (dj : oj.data = .cell vj) (df : of_.data = .cell (some (.int a ta))) (hN : NamesIn Dn kl keep) (h1 : (D1, LCg.lst vs) ∈ keep) (hi : IntsAre vs oc) (hoc : oc.length ≤ 200) (hr : ∀ k ∈ oc, 0 ≤ k ∧ k < 256)
  (k1 : ∀ i < 4, (kl i).length ≤ 7) (k2 : ∀ i < 4, ∀ k ∈ kl i, 0 ≤ k ∧ k < 256) (k3 : ∀ i, 4 ≤ i → kl i = [])
  (h : ∀ h' tk m', Fr h₀ L h' m' → Q .next { s with heap := h', toks := tk }) :
  wpAny (model PySem.Challenge.rw_io0058_01.row.prog w) (callerA.deeper (envOfC "law" (fnScope lawS) L fa cd)) (exec (nthS lawB 5) (envOfC "law" (fnScope lawS) L fa cd)) Q E s := by
  dsimp only [lawB, forBody, lawS, PySem.Challenge.pw_io0058_01, nthS, fnBody, fnScope]
  revert KX; k_fill; intro KX
  refine For_cell (h₀ := h₀) (L := L) (c := L + 1 + 1 + 1) rfl rfl rfl rfl (stop_post ?_)
  k_steps
  refine unstop ?_
  rename_i hr0 F2 N2 _
  obtain ⟨R, hR⟩ : ∃ R, R = 1 + a.fmod 4 := ⟨_, rfl⟩
  have hR1 : 1 ≤ R ∧ R ≤ 4 := by
    have := Int.fmod_nonneg_of_pos a (b := 4) (by omega)
    have := Int.fmod_lt_of_pos a (b := 4) (by omega)
    omega
  rw [show 2 + a.fmod 4 = R + 1 by omega] at hr0
  obtain ⟨hsm, hsz⟩ := rng_ok R hR1
  refine ⟨_, 1, R + 1, _, _, _, R.toNat, keep, [(L + 1 + 1 + 1 + 1, oj)], m, on, vn, J2 (L := L) Dn D1 oc kl, rfl, rfl, F2, fun q hq => N2 q ?n2, d, ?off, hr0, hsm, hsz, ⟨oj, vj, tb, rfl, dj, m1, m2, m3⟩, ?turn, ?done⟩
  case n2 =>
    rcases List.mem_cons.mp hq with e | hq
    · rw [e]; k_mem
    · rcases List.mem_cons.mp hq with e | hq
      · rw [e]; k_mem
      · exact .tail _ (.tail _ (.tail _ hq))
  case off =>
    intro q hq
    rcases List.mem_cons.mp hq with e | hq
    · rw [e]; exact neN (a := L + 1 + 1 + 1 + 1) (b := L + 1 + 1 + 1) (by omega)
    · exact (off q hq).1
  case done =>
    rintro m₁ o v var tk h1 _ _ F3 _
    exact h _ _ _ F3
  case turn =>
    rintro i hi1 m₁ I oI o var tk h9 t E' ⟨oj1, vj1, tb1, rfl, hdj, e1, e2, e3⟩ hdo F3 N3 offI hIc
    obtain ⟨nv, hnv, hax⟩ := id hN
    have hi4 : i < 4 := by omega
    obtain ⟨ax, vx, hv, hax, hia, hl7, hr7⟩ := hax i hi4
    have e0 : ((1 : Int) + (i : Int) - 1).toNat = i := by omega
    have e00 : ((1 : Int) + (i : Int)).toNat = i + 1 := by omega
    have full : ∀ q ∈ keep, q ∈ ((L + 1 + 1 + 1, o) :: ([(L + 1 + 1 + 1 + 1, oj1)] ++ (I, oI) :: keep)) := fun q hq => .tail _ (.tail _ (.tail _ hq))
    have ho256 := nat_lt hr
    have hn256 := nm_lt k2 k3
    have hwl := word_lt (oc.map Int.toNat) (nmOf kl) ho256 hn256
    have hb1 : (wordB oc kl i).length ≤ 100000 := by unfold wordB; rw [List.length_map]; exact word_bound hoc k1 k3 i (by omega)
    refine wpAny_execs_cons (told_step (n := 1 + (i : Int)) (on := o) (nv := nv) (ax := ax) (vs := vx) (ks := kl i) (b := wordB oc kl i) (tb := tb1) (Dn := Dn) K0 KX T (fr_at (fr_at F3 e2) ?_)
      (news_dup N3 (by k_mem) (news_dup N3 (full _ hnv) (news_dup N3 (full _ hax) N3))) hdo (by omega) hb1 hl7 (by rw [e0]; exact hv) hia hr7 ?_)
    · show (if _ then _ else _) = _
      rw [if_neg (by decide)]; exact e3
    intro h2 tk2 t2 F4 N4
    show wpAny _ _ (execs _ _) _ _ _
    have ew : encR ((kl i).map Int.toNat) ((wordB oc kl i).map UInt8.toNat) = wordN (oc.map Int.toNat) (nmOf kl) (i + 1) := by
      unfold wordB; rw [bytes_back (hwl i)]; rfl
    rw [ew] at F4
    obtain ⟨m4, F4, a1, a2, a3⟩ : ∃ m4, Fr h₀ L h2 m4 ∧ m4 (Str.ofString "octets") = some (.ref D1) ∧ m4 (Str.ofString "names") = some (.ref Dn) ∧ m4 (Str.ofString "told") = some (.str (strOf (wordN (oc.map Int.toNat) (nmOf kl) (i + 1))) t2) :=
      ⟨_, F4, by (show (if _ then _ else if _ then _ else if _ then _ else _) = _; rw [if_neg (by decide), if_neg (by decide), if_neg (by decide)]; exact e1),
        by (show (if _ then _ else if _ then _ else if _ then _ else _) = _; rw [if_neg (by decide), if_neg (by decide), if_pos rfl]), if_pos rfl⟩
    have N4 : News h₀ L h2 ((L + 1 + 1 + 1, o) :: ([(L + 1 + 1 + 1 + 1, oj1)] ++ (I, oI) :: keep)) := fun q hq => N4 q (.tail _ (.tail _ (.tail _ hq)))
    clear ew e3 F3 N3
    refine wpAny_execs_cons (due_step (n := 1 + (i : Int)) (on := o) (D1 := D1) (vs := vs) (ks := oc) K0 KX T (fr_at F4 a1) (news_dup N4 (by k_mem) (news_dup N4 (full _ h1) N4)) hdo (by omega) hi hoc hr ?_)
    intro h3 tk3 Dd yd F5 hyd offd N5
    show wpAny _ _ (execs _ _) _ _ _
    obtain ⟨m5, F5, b1, b2, b3, b4⟩ : ∃ m5, Fr h₀ L h3 m5 ∧ m5 (Str.ofString "octets") = some (.ref D1) ∧ m5 (Str.ofString "names") = some (.ref Dn) ∧ m5 (Str.ofString "told") = some (.str (strOf (wordN (oc.map Int.toNat) (nmOf kl) (i + 1))) t2) ∧ m5 (Str.ofString "due") = some (.ref Dd) :=
      ⟨_, F5, by (show (if _ then _ else if _ then _ else _) = _; rw [if_neg (by decide), if_pos rfl]), by (show (if _ then _ else if _ then _ else _) = _; rw [if_neg (by decide), if_neg (by decide)]; exact a2),
        by (show (if _ then _ else if _ then _ else _) = _; rw [if_neg (by decide), if_neg (by decide)]; exact a3), if_pos rfl⟩
    rw [e00] at hyd
    have hyd : StrsAre yd ((dueL oc kl (1 + (i : Int)).toNat 0).map strOf) := by rw [e00]; simpa [dueL, Function.comp_def] using hyd
    have hN1 : NamesIn Dn kl ((I, oI) :: keep) := hN.mono fun q hq => .tail _ hq
    refine wpAny_execs_cons (inner_step (n := 1 + (i : Int)) (on := o) (oj := oj1) (Dn := Dn) (Dd := Dd) (vd := yd) (kd := yd.length) (oc := oc) (kl := kl) (keep := (I, oI) :: keep) K0 KX T F5 b4 b2 (fun q hq => N5 q ?_) (fun q hq => ?_) hdo hdj (by omega) hN1 k1 hoc hyd ?_)
    · rcases List.mem_cons.mp hq with e | hq
      · rw [e]; k_mem
      · rcases List.mem_cons.mp hq with e | hq
        · rw [e]; k_mem
        · rcases List.mem_cons.mp hq with e | hq
          · rw [e]; k_mem
          · exact .tail _ (.tail _ (.tail _ (.tail _ (.tail _ hq))))
    · rcases List.mem_cons.mp hq with e | hq
      · rw [e]; exact fun e => offd (L + 1 + 1 + 1 + 1, oj1) (by k_mem) e.symm
      · rcases List.mem_cons.mp hq with e | hq
        · rw [e]; exact fun e => offI (L + 1 + 1 + 1 + 1, oj1) (by k_mem) e.symm
        · exact (off q hq).2
    intro h4 tk4 m6 oj2 vj2 Dd2 vd2 kd2 F6 c1 c2 c3 c4 N6
    show wpAny _ _ (execs _ _) _ _ _
    have c5 : m6 (Str.ofString "octets") = some (.ref D1) := (c2 _ (by decide) (by decide)).trans b1
    have c6 : m6 (Str.ofString "names") = some (.ref Dn) := (c2 _ (by decide) (by decide)).trans b2
    have c7 := (c2 (Str.ofString "told") (by decide) (by decide)).trans b3
    rw [e00] at c3
    have full2 : ∀ q ∈ keep, q ∈ ((L + 1 + 1 + 1 + 1, oj2) :: (Dd2, W.listOf (List.toArray vd2) kd2) :: (L + 1 + 1 + 1, o) :: (I, oI) :: keep) := fun q hq => .tail _ (.tail _ (.tail _ (.tail _ hq)))
    refine wpAny_execs_cons (if_step (D1 := D1) (Dd := Dd2) (vs := vs) (vd := vd2) (kd := kd2) (oc := oc) (ls := dueL oc kl (i + 1) (i + 1)) K0 KX T (fr_at (fr_at F6 c1) ?_) (news_dup N6 (full2 _ h1) (news_dup N6 (by k_mem) N6)) hi hoc c3 ?_)
    · show (if _ then _ else _) = _
      rw [if_neg (by decide)]; exact c5
    intro h5 tk5 m7 Dd3 vd3 kd3 F7 d1 d2 d3 N7
    show wpAny _ _ (execs _ _) _ _ _
    have d5 : m7 (Str.ofString "octets") = some (.ref D1) := (d2 _ (by decide)).trans (if_pos rfl)
    have d6 : m7 (Str.ofString "names") = some (.ref Dn) := (d2 _ (by decide)).trans (by (show (if _ then _ else if _ then _ else _) = _; rw [if_neg (by decide), if_neg (by decide)]; exact c6))
    have d7 : m7 (Str.ofString "told") = some (.str (strOf (wordN (oc.map Int.toNat) (nmOf kl) (i + 1))) t2) := (d2 _ (by decide)).trans (by (show (if _ then _ else if _ then _ else _) = _; rw [if_neg (by decide), if_neg (by decide)]; exact c7))
    have ef := due_flat oc kl (i + 1) ho256 hn256
    have hw1 := word_bound (oc := oc) hoc k1 k3 (i + 1) (by omega)
    refine wpAny_execs_cons (cmp_step (Dd := Dd3) (vd := vd3) (kd := kd3) (ls := if oc = [] then [] else dueL oc kl (i + 1) (i + 1)) (tt := t2) K0 KX T (fr_at (fr_at F7 d1) ?_) N7 d3 (by rw [ef]; exact hw1) ?_)
    · show (if _ then _ else _) = _
      rw [if_neg (by decide), ef]; exact d7
    intro tk6
    show wpAny _ _ (execs _ _) _ _ _
    refine wpAny_execs_cons (text_step (l := wordN (oc.map Int.toNat) (nmOf kl) (i + 1)) (tt := t2) K0 KX T (fr_at F7 d7) N7 hw1 (hwl (i + 1)) ?_)
    intro h6 tk7 tb6 F8 N8
    show wpAny _ _ (execs _ _) _ _ _
    refine wpAny_execs_nil ?_
    refine ⟨h6, tk7, _, o, _, [(L + 1 + 1 + 1 + 1, oj2)], rfl, F8, fun q hq => N8 q ?_, hdo, ?_, oj2, vj2, tb6, rfl, c4, ?_, ?_, ?_⟩
    · rcases List.mem_cons.mp hq with e | hq
      · rw [e]; k_mem
      · rcases List.mem_cons.mp hq with e | hq
        · rw [e]; k_mem
        · exact .tail _ (.tail _ (.tail _ (.tail _ hq)))
    · intro q hq
      rw [List.mem_singleton.mp hq]
      exact ⟨neN (a := L + 1 + 1 + 1 + 1) (b := L + 1 + 1 + 1) (by omega), fun e => offI (L + 1 + 1 + 1 + 1, oj1) (by k_mem) e⟩
    · show (if _ then _ else if _ then _ else _) = _
      rw [if_neg (by decide), if_neg (by decide)]; exact d5
    · show (if _ then _ else if _ then _ else _) = _
      rw [if_neg (by decide), if_neg (by decide)]; exact d6
    · exact if_pos rfl
end
end Mine
end

section
open PySem PySem.W PyProof.Rows
set_option maxRecDepth 100000
set_option maxHeartbeats 200000
namespace Mine
section
variable {prog : Program} {w : World} {A : Around} {E : Value → Shared → Prop} {h₀ : Heap} {L : Addr} {m : Str → Option Value} {env : Env} {elt : Expr} {x : Str} {scope : Scope} {cl : List (Str × Addr)}
theorem src_ints {Fin : Shared → List Value → List (Addr × Obj) → Prop} {ax : Addr} {vs : List Value} {ks : List Int} {kk : Nat} {news : List (Addr × Obj)} {s₁ : Shared}
    (hh : A.handled = none) (F : Fr h₀ L s₁.heap m) (N : News h₀ L s₁.heap news) (hm : (ax, ({ cls := .type "list", data := .seq vs.toArray kk } : Obj)) ∈ news) (hi : IntsAre vs ks) (hsz : ks.length ≤ 16777216)
    (turn : ∀ gh k t I oI C oC D m₂ ys h tk (E' : Value → Shared → Prop), k ∈ ks → LCg.NsObj oC m₂ → m₂ x = some (.int k t) → Fr h₀ L h m → News h₀ L h ((I, oI) :: (C, oC) :: (D, LCg.lst ys) :: news) →
      wpAny (model prog w) A (eval elt (compEnvC scope cl C env)) (fun y s₂ => Stop (∃ h' tk' k' t', y = .int k' t' ∧ (0 ≤ k' ∧ k' < 256) ∧ s₂ = { s₁ with heap := h', toks := tk' } ∧ Fr h₀ L h' m ∧ News h₀ L h' ((I, oI) :: (C, oC) :: (D, LCg.lst ys) :: news))) E' { ({ s₁ with heap := gh } : Shared) with heap := h, toks := tk })
    (fin : ∀ gh ys ks', IntsAre ys ks' → ks'.length = ks.length → (∀ k ∈ ks', 0 ≤ k ∧ k < 256) → Fin { s₁ with heap := gh } ys news) : LCg.CompSrc prog w A h₀ L m env elt x scope cl Fin (.ref ax) s₁ := by
  refine LCg.CompSrc.ledger (its := vs.toArray) hh F N hm (by rw [List.size_toArray, hi.length, sizeLine_eq]; exact hsz) fun gh => ?_
  refine rest_gen (fun i ys => ∃ ks', IntsAre ys ks' ∧ ks'.length = i ∧ ∀ k ∈ ks', 0 ≤ k ∧ k < 256) ⟨[], .nil, rfl, fun _ hk => by cases hk⟩ (.inr ⟨_, hm, rfl, kk, rfl⟩) (fun i v ys I oI C oC D m₂ h tk E' hi1 hv hy hC hx F N => ?_) (fun ys hy => ?_)
  · obtain ⟨k, t, e, hk⟩ := IntsAre.at hi i v (by simpa using hv)
    subst e
    obtain ⟨ks', g1, g2, g3⟩ := hy
    refine wpAny_mono (turn gh k t I oI C oC D m₂ ys h tk E' (List.mem_of_getElem? hk) hC hx F N) (fun y s₂ hq => ?_) fun _ _ e => e
    obtain ⟨h', tk', k', t', rfl, hb, e, F', N'⟩ := hq
    refine ⟨h', tk', e, F', N', ks' ++ [k'], ints_snoc g1, by simp [g2], fun q hq => ?_⟩
    rcases List.mem_append.mp hq with hq | hq
    · exact g3 q hq
    · rw [List.mem_singleton.mp hq]; exact hb
  · obtain ⟨ks', g1, g2, g3⟩ := hy
    exact fin gh ys ks' g1 (by rw [g2, List.size_toArray, hi.length]) g3
theorem crest_gen {s : Shared} {P : Nat → Value → Prop} {Fin : List Value → List (Addr × Obj) → Prop} {news₀ : List (Addr × Obj)} {n : Nat} (Y : Nat → List Value → List (Addr × Obj) → Prop) (h0 : Y 0 [] news₀)
    (turn : ∀ i v ys news I oI C oC c oc D h tk (E' : Value → Shared → Prop), i < n → P i v → Y i ys news → oc.data = .cell (some v) → Fr h₀ L h m → News h₀ L h ((c, oc) :: (I, oI) :: (C, oC) :: (D, LCg.lst ys) :: news) → (∀ p ∈ news, p.1 ≠ I ∧ p.1 ≠ C ∧ p.1 ≠ D ∧ p.1 ≠ c) →
      wpAny (model prog w) A (eval elt (compEnvC scope ((x, c) :: cl) C env)) (fun y s₂ => Stop (∃ h' tk' news', s₂ = { s with heap := h', toks := tk' } ∧ Fr h₀ L h' m ∧ News h₀ L h' ((c, oc) :: (I, oI) :: (C, oC) :: (D, LCg.lst ys) :: news') ∧
        (∀ p ∈ news', p.1 ≠ I ∧ p.1 ≠ C ∧ p.1 ≠ D ∧ p.1 ≠ c) ∧ Y (i + 1) (ys ++ [y]) news')) E' { s with heap := h, toks := tk })
    (fin : ∀ ys news, Y n ys news → Fin ys news) : CRest prog w A h₀ L m env elt scope x cl s P Fin n 0 [] news₀ := by
  have key : ∀ (j i : Nat) (ys : List Value) (news : List (Addr × Obj)), i + j = n → Y i ys news → CRest prog w A h₀ L m env elt scope x cl s P Fin j i ys news := by
    intro j
    induction j with
    | zero =>
      intro i ys news hi hy
      have e : i = n := by omega
      subst e
      exact fin ys news hy
    | succ j ih =>
      intro i ys news hi hy
      intro v I oI C oC c oc D h tk E' hv hoc F N off
      refine wpAny_mono (turn i v ys news I oI C oC c oc D h tk E' (by omega) hv hy hoc F N off) (fun y s₂ hq => ?_) fun _ _ e => e
      obtain ⟨h', tk', news', e, F', N', off', hy'⟩ := hq
      exact ⟨h', tk', news', e, F', N', off', ih (i + 1) _ news' (by omega) hy'⟩
  exact key n 0 [] news₀ (by omega) h0
end
def YN (B0 : List (Addr × Obj)) (i : Nat) (ys : List Value) (nw : List (Addr × Obj)) : Prop :=
  ∃ nl, nw = nl ++ B0 ∧ (∀ q ∈ nl, ∀ r ∈ B0, q.1 ≠ r.1) ∧ ∃ ksl : List (List Int), ksl.length = i ∧ ys.length = i ∧ ∀ j < i, ∃ ax vs ks, ksl[j]? = some ks ∧ ys[j]? = some (.ref ax) ∧ (ax, LCg.lst vs) ∈ nl ∧ IntsAre vs ks ∧ ks.length ≤ 7 ∧ ∀ k ∈ ks, 0 ≤ k ∧ k < 256
theorem YN.snoc {B0 : List (Addr × Obj)} {i : Nat} {ys : List Value} {nl : List (Addr × Obj)} {Dx : Addr} {vx : List Value} {kx : List Int} (hn : ∀ q ∈ nl, ∀ r ∈ B0, q.1 ≠ r.1)
    (h : ∃ ksl : List (List Int), ksl.length = i ∧ ys.length = i ∧ ∀ j < i, ∃ ax vs ks, ksl[j]? = some ks ∧ ys[j]? = some (.ref ax) ∧ (ax, LCg.lst vs) ∈ nl ∧ IntsAre vs ks ∧ ks.length ≤ 7 ∧ ∀ k ∈ ks, 0 ≤ k ∧ k < 256)
    (hD : ∀ r ∈ B0, r.1 ≠ Dx) (hi : IntsAre vx kx) (hl : kx.length ≤ 7) (hb : ∀ k ∈ kx, 0 ≤ k ∧ k < 256) : YN B0 (i + 1) (ys ++ [.ref Dx]) ((Dx, LCg.lst vx) :: nl ++ B0) := by
  obtain ⟨ksl, e1, e2, e3⟩ := h
  refine ⟨(Dx, LCg.lst vx) :: nl, rfl, fun q hq r hr => ?_, ksl ++ [kx], by simp [e1], by simp [e2], fun j hj => ?_⟩
  · rcases List.mem_cons.mp hq with e | hq
    · rw [e]; exact fun e => hD r hr e.symm
    · exact hn q hq r hr
  · by_cases q : j < i
    · obtain ⟨ax, vs, ks, g1, g2, g3, g4⟩ := e3 j q
      exact ⟨ax, vs, ks, by rw [List.getElem?_append_left (by omega)]; exact g1, by rw [List.getElem?_append_left (by omega)]; exact g2, .tail _ g3, g4⟩
    · have e : j = i := by omega
      subst e
      exact ⟨Dx, vx, kx, by rw [List.getElem?_append_right (by omega), e1, Nat.sub_self]; rfl, by rw [List.getElem?_append_right (by omega), e2, Nat.sub_self]; rfl, .head _, hi, hl, hb⟩
section
local macro_rules | `(tactic| walk_at "eval ListComp") => `(tactic| (k_here; k_dflt (show Stop _)))
local macro_rules | `(tactic| walk_at "CompSrc") => `(tactic| (k_here; k_dflt (show Stop _)))
variable {w : World} {p : Program} {loose : List Str} {mean : ExcName → Option Value} {mg mb : Str → Option Value} {base h₀ : Heap} {L fa : Addr} {cd : Value} {m : Str → Option Value} {s : Shared} {Q : Flow → Shared → Prop} {E : Value → Shared → Prop}
theorem names_step {of_ or_ : Obj} {a : Int} {ta : Tok} {D2 : Addr} {ws : List Value} {rs : List Int} {kr : Nat} {tl : List (Addr × Obj)}
  (K0 : Below callerA base [] h₀) (KX : (K39 w.params).In h₀) (T : Top p loose mean mg mb h₀)
  (F : Fr h₀ L s.heap m)
  (N : News h₀ L s.heap ((L + 1 + 1, or_) :: (L + 1, of_) :: (D2, W.listOf (List.toArray ws) kr) :: tl))
  (dr : or_.data = .cell (some (.ref D2))) (df : of_.data = .cell (some (.int a ta))) (hi : IntsAre ws rs) (hl : rs.length ≤ 200)
  (h : ∀ h' tk Dn kl news', Fr h₀ L h' (fun z => if z = Str.ofString "names" then some (.ref Dn) else m z) → NamesIn Dn kl news' → (∀ i < 4, (kl i).length ≤ 7) → (∀ i < 4, ∀ k ∈ kl i, 0 ≤ k ∧ k < 256) → (∀ i, 4 ≤ i → kl i = []) →
    News h₀ L h' (news' ++ (L + 1 + 1, or_) :: (L + 1, of_) :: (D2, W.listOf (List.toArray ws) kr) :: tl) → (∀ q ∈ news', ∀ r ∈ (L + 1 + 1, or_) :: (L + 1, of_) :: (D2, W.listOf (List.toArray ws) kr) :: tl, q.1 ≠ r.1) → Q .next { s with heap := h', toks := tk }) :
  wpAny (model PySem.Challenge.rw_io0058_01.row.prog w) (callerA.deeper (envOfC "law" (fnScope lawS) L fa cd)) (exec (nthS lawB 3) (envOfC "law" (fnScope lawS) L fa cd)) Q E s := by
  dsimp only [lawB, forBody, lawS, PySem.Challenge.pw_io0058_01, nthS, fnBody, fnScope]
  revert KX; k_fill; intro KX
  refine Assign_ListComp_C (h₀ := h₀) (L := L) (m := m) rfl (by with_unfolding_all rfl) (by with_unfolding_all rfl) (fun _ => rfl) (fun _ => rfl) rfl (by decide) rfl rfl rfl (stop_post ?_)
  k_steps
  refine unstop ?_
  rename_i hr F2 N2 _
  refine ⟨_, 1, 5, _, _, _, 4, _, rfl, rfl, F2, N2, hr, by decide, by decide, by decide, fun g => ?_⟩
  generalize hB : (L + 1 + 1, or_) :: (L + 1, of_) :: (D2, W.listOf (List.toArray ws) kr) :: tl = B0 at *
  refine crest_gen (YN B0) ⟨[], rfl, (fun _ hq => by cases hq), [], rfl, rfl, fun j hj => absurd hj (Nat.not_lt_zero _)⟩ ?turn ?fin
  case fin =>
    rintro ys nw ⟨nl, rfl, hnl, ksl, e1, e2, e3⟩ Dn h9 tk9 F9 N9 off9
    refine h h9 tk9 Dn (fun j => ksl.getD j []) ((Dn, LCg.lst ys) :: nl) F9 ⟨ys, .head _, fun i hi => ?_⟩ (fun i hi => ?_) (fun i hi => ?_) (fun i hi => ?_) N9 (fun q hq r hr => ?_)
    · obtain ⟨ax, vs, ks, g1, g2, g3, g4, g5, g6⟩ := e3 i hi
      have : ksl.getD i [] = ks := by rw [List.getD_eq_getElem?_getD, g1]; rfl
      have this : (fun j => ksl.getD j []) i = ks := this
      exact ⟨ax, vs, g2, .tail _ g3, this ▸ g4, this ▸ g5, this ▸ g6⟩
    · obtain ⟨ax, vs, ks, g1, g2, g3, g4, g5, g6⟩ := e3 i hi
      have : ksl.getD i [] = ks := by rw [List.getD_eq_getElem?_getD, g1]; rfl
      show (ksl.getD i []).length ≤ 7
      rw [this]; exact g5
    · obtain ⟨ax, vs, ks, g1, g2, g3, g4, g5, g6⟩ := e3 i hi
      have : ksl.getD i [] = ks := by rw [List.getD_eq_getElem?_getD, g1]; rfl
      show ∀ k ∈ ksl.getD i [], _
      rw [this]; exact g6
    · show ksl.getD i [] = []
      rw [List.getD_eq_getElem?_getD, List.getElem?_eq_none (by omega)]; rfl
    · rcases List.mem_cons.mp hq with e | hq
      · rw [e]; exact fun e => off9 r (List.mem_append_right _ hr) e.symm
      · exact hnl q hq r hr
  case turn =>
    rintro i v ys nw I oI C oC c oc D h1 tk1 E' hi4 ⟨t, rfl⟩ ⟨nl, rfl, hnl, hks⟩ hoc F3 N3 off
    have q1 : (L + 1 + 1, or_) ∈ B0 := by rw [← hB]; k_mem
    have q2 : (L + 1, of_) ∈ B0 := by rw [← hB]; k_mem
    have q3 : (D2, W.listOf (List.toArray ws) kr) ∈ B0 := by rw [← hB]; k_mem
    have up : ∀ q ∈ B0, q ∈ (c, oc) :: (I, oI) :: (C, oC) :: (D, LCg.lst ys) :: (nl ++ B0) := fun q hq => .tail _ (.tail _ (.tail _ (.tail _ (List.mem_append_right _ hq))))
    have N4 := news_dup N3 (List.mem_cons_self) (news_dup N3 (up _ q1) (news_dup N3 (up _ q2) (news_dup N3 (up _ q3) N3)))
    generalize hT : (c, oc) :: (I, oI) :: (C, oC) :: (D, LCg.lst ys) :: (nl ++ B0) = T0 at N4
    clear N3 hB
    k_steps
    show wpAny _ _ _ _ _ _
    refine LCg.ListComp_U (F₀ := by k_asm) (by with_unfolding_all rfl) (by decide) (by rfl) (by decide) (by rfl) ?_
    k_steps
    show LCg.CompSrc _ _ _ _ _ _ _ _ _ _ _ _ _ _
    refine' src_ints ?hh ?F ?N ?hm ?hi ?hsz ?turn ?fin
    (case hh => rfl)
    (case F => k_asm)
    (case N => k_asm)
    (case hm => k_mem)
    (case hi => assumption)
    (case hsz => omega)
    case turn =>
      intro gh k t9 I oI C oC D m₂ ys h tk E' hkm hC hx F N
      have hp : (256 : Int) ^ (1 + (i : Int)).toNat ≠ 0 := by
        have : (0 : Int) < 256 ^ (1 + (i : Int)).toNat := Int.pow_pos (by omega)
        omega
      have hlog : ((256 : Int) ^ (1 + (i : Int)).toNat).natAbs.log2 < 9000 := by
        have : i = 0 ∨ i = 1 ∨ i = 2 ∨ i = 3 := by omega
        clear hp
        rcases this with e | e | e | e <;> rw [e] <;> decide +kernel
      dsimp only
      k_steps
      refine floordiv_int hp ?_ (Or.inl (PyProof.noPylong_of_log2 hlog))
      k_steps
      refine unstop ?_
      exact ⟨_, _, _, _, rfl, ⟨Int.fmod_nonneg_of_pos _ (by omega), Int.fmod_lt_of_pos _ (by omega)⟩, rfl, by k_asm, by k_asm⟩
    case fin =>
      intro gh ys9 kx hkx hlx hbx
      k_steps
      refine unstop ?_
      rename News _ _ _ _ => N8
      rename _ ∧ _ ∧ _ ∧ _ ∧ _ ∧ LCg.Off1 _ _ => o8
      have o9 := off1_all o8.2.2.2.2.2
      rw [← hT] at o9
      refine ⟨_, _, (_, LCg.lst ys9) :: (nl ++ B0), rfl, by k_asm, fun q hq => N8 q ?_, ?_, YN.snoc hnl hks (fun r hr => o9 r (up r hr)) hkx ?_ hbx⟩
      · rcases List.mem_cons.mp hq with e | hq
        · rw [e]; exact .tail _ (.tail _ (.head _))
        · rcases List.mem_cons.mp hq with e | hq
          · rw [e]; refine .tail _ (.tail _ (.tail _ (.tail _ (.tail _ (.tail _ ?_))))); rw [← hT]; k_mem
          · rcases List.mem_cons.mp hq with e | hq
            · rw [e]; refine .tail _ (.tail _ (.tail _ (.tail _ (.tail _ (.tail _ ?_))))); rw [← hT]; k_mem
            · rcases List.mem_cons.mp hq with e | hq
              · rw [e]; refine .tail _ (.tail _ (.tail _ (.tail _ (.tail _ (.tail _ ?_))))); rw [← hT]; k_mem
              · rcases List.mem_cons.mp hq with e | hq
                · rw [e]; exact .head _
                · refine .tail _ (.tail _ (.tail _ (.tail _ (.tail _ (.tail _ ?_))))); rw [← hT]; exact .tail _ (.tail _ (.tail _ (.tail _ hq)))
      · intro q hq
        rcases List.mem_cons.mp hq with e | hq
        · rw [e]
          exact ⟨fun e => o9 (I, oI) (by k_mem) e.symm, fun e => o9 (C, oC) (by k_mem) e.symm, fun e => o9 (D, LCg.lst ys) (by k_mem) e.symm, fun e => o9 (c, oc) (by k_mem) e.symm⟩
        · exact off q hq
      · rw [hlx, List.length_take]
        have := Int.fmod_lt_of_pos (a.fdiv 4) (b := 8) (by omega)
        omega
end
end Mine
end

section
open PySem PySem.W PyProof.Rows
set_option maxRecDepth 100000
set_option maxHeartbeats 400000
namespace Mine
section
local macro_rules | `(tactic| walk_at "call type:bytes") => `(tactic| (k_here; k_dflt (show Stop _)))
variable {w : World} {p : Program} {loose : List Str} {mean : ExcName → Option Value} {mg mb : Str → Option Value} {base h₀ : Heap} {L fa : Addr} {cd : Value} {m : Str → Option Value} {s : Shared} {Q : Flow → Shared → Prop} {E : Value → Shared → Prop}
theorem text0_step {D1 : Addr} {vs : List Value} {oc : List Int} {kl : Nat → List Int} {tl : List (Addr × Obj)}
  (KX : (K39 w.params).In h₀)
  (T : Top p loose mean mg mb h₀)
  (F : Fr h₀ L s.heap (fun z => if z = Str.ofString "octets" then some (.ref D1) else m z))
  (N : News h₀ L s.heap ((D1, LCg.lst vs) :: tl)) (hi : IntsAre vs oc) (hl : oc.length ≤ 200) (hr : ∀ k ∈ oc, 0 ≤ k ∧ k < 256)
  (h : ∀ h' tk tb, Fr h₀ L h' (fun z => if z = Str.ofString "text" then some (.bytes (wordB oc kl 0).toArray tb) else if z = Str.ofString "octets" then some (.ref D1) else m z) → News h₀ L h' tl → Q .next { s with heap := h', toks := tk }) :
  wpAny (model PySem.Challenge.rw_io0058_01.row.prog w) (callerA.deeper (envOfC "law" (fnScope lawS) L fa cd)) (exec (nthS lawB 4) (envOfC "law" (fnScope lawS) L fa cd)) Q E s := by
  dsimp only [lawB, forBody, lawS, PySem.Challenge.pw_io0058_01, nthS, fnBody, fnScope]
  revert KX; k_fill; intro KX
  k_steps
  show wpAny _ _ _ _ _ _
  refine' bytes_K (ns := oc) ?F N ?hl hi hr ?hz rfl ?_
  case F => k_asm
  case hl => (dsimp only [LCg.lst] at *; exact News.isList N (by k_mem))
  case hz => (have := hi.length; rw [this, sizeLine_eq]; omega)
  intro h9 t9 k9 F9 N9 _
  have e : (oc.map fun n => n.toNat.toUInt8) = wordB oc kl 0 := by
    show _ = (oc.map Int.toNat).map UInt8.ofNat
    rw [List.map_map]; rfl
  rw [e]
  k_steps
  rename News _ _ _ _ => N8
  exact h _ _ t9 (by k_asm) (fun q hq => N8 q (.tail _ hq))
end
theorem walk : PySem.Challenge.rw_io0058_01.Holds := head (by rfl) (by rfl) (by rfl) (by
  k_go0
  all_goals try k_fold
  k_steps
  all_goals (try (exfalso; rename decide (_ = []) = false => hc; have hc := List.length_pos_iff.mpr (of_decide_eq_false hc); omega))
  · show wpAny _ _ _ _ _ _
    refine' names_step ?K0 ?KX ?T ?F ?N ?dr ?df ?hi ?hl ?_
    (case K0 => k_asm)
    (case KX => k_asm)
    (case T => k_asm)
    (case F => k_asm)
    (case N => (rename News _ _ _ _ => N8; exact news_dup N8 (by k_mem) (news_dup N8 (by k_mem) (news_dup N8 (.tail _ (.head _)) N8))))
    (case dr => assumption)
    (case df => assumption)
    (case hi => assumption)
    (case hl => (simp only [List.length_take, List.length_drop]; omega))
    intro h2 tk2 Dn kl nl F2 hN k1 k2 k3 N2 off2
    show wpAny _ _ (execs _ _) _ _ _
    refine wpAny_execs_cons ?_
    refine' text0_step (kl := kl) ?zKX ?zT (fr_at (x := Str.ofString "octets") F2 ?ze) (news_dup N2 (List.mem_append_right _ ?zN) N2) ?zhi ?zhl ?zhr ?_
    (case zKX => k_asm)
    (case zT => k_asm)
    (case ze => (show (if _ then _ else if _ then _ else _) = _; rw [if_neg (by decide), if_pos rfl]))
    (case zN => exact .tail _ (.tail _ (.tail _ (.head _))))
    (case zhi => assumption)
    (case zhl => (simp only [List.length_map, List.length_take, List.length_drop]; omega))
    (case zhr => (intro k hk; obtain ⟨x, _, rfl⟩ := List.mem_map.mp hk; exact ⟨Int.fmod_nonneg_of_pos _ (by omega), Int.fmod_lt_of_pos _ (by omega)⟩))
    intro h3 tk3 tb F3 N3
    show wpAny _ _ (execs _ _) _ _ _
    refine wpAny_execs_cons ?_
    refine' outer_step (kl := kl) (keep := (_, LCg.lst _) :: nl) ?yK0 ?yKX ?yT F3 ?ym1 ?ym2 (if_pos rfl) ?yN ?yoff ?yd ?ydj ?ydf (hN.mono fun q hq => .tail _ hq) (.head _) ?yhi ?yhl ?yhr k1 k2 k3 ?_
    (case yK0 => k_asm)
    (case yKX => k_asm)
    (case yT => k_asm)
    (case ym1 => (show (if _ then _ else if _ then _ else _) = _; rw [if_neg (by decide), if_pos rfl]))
    (case ym2 => (show (if _ then _ else if _ then _ else if _ then _ else _) = _; rw [if_neg (by decide), if_neg (by decide), if_pos rfl]))
    (case yN => exact news_dup N3 (List.mem_append_right _ (by k_mem)) (news_dup N3 (List.mem_append_right _ (by k_mem)) (news_dup N3 (List.mem_append_right _ (by k_mem)) (news_dup N3 (List.mem_append_right _ (.tail _ (.tail _ (.tail _ (.head _))))) (fun q hq => N3 q (List.mem_append_left _ hq))))))
    (case yoff =>
      rename _ ≠ _ ∧ _ ≠ _ ∧ _ ≠ _ ∧ _ => o8
      intro q hq
      rcases List.mem_cons.mp hq with e | hq
      · rw [e]; exact ⟨fun e => o8.2.2.2.1 e.symm, fun e => o8.2.2.1 e.symm⟩
      · constructor
        · exact off2 q hq (_, _) (.tail _ (.tail _ (.tail _ (by k_mem))))
        · exact off2 q hq (_, _) (.tail _ (.tail _ (.tail _ (by k_mem)))))
    (case yd => assumption)
    (case ydj => assumption)
    (case ydf => assumption)
    (case yhi => assumption)
    (case yhl => (simp only [List.length_map, List.length_take, List.length_drop]; omega))
    (case yhr => (intro k hk; obtain ⟨x, _, rfl⟩ := List.mem_map.mp hk; exact ⟨Int.fmod_nonneg_of_pos _ (by omega), Int.fmod_lt_of_pos _ (by omega)⟩))
    intro h4 tk4 m4 F4
    show wpAny _ _ (execs _ _) _ _ _
    k_steps
  · show wpAny _ _ _ _ _ _
    refine' names_step ?K0 ?KX ?T ?F ?N ?dr ?df ?hi ?hl ?_
    (case K0 => k_asm)
    (case KX => k_asm)
    (case T => k_asm)
    (case F => k_asm)
    (case N => (rename News _ _ _ _ => N8; exact news_dup N8 (by k_mem) (news_dup N8 (by k_mem) (news_dup N8 (.tail _ (.head _)) N8))))
    (case dr => assumption)
    (case df => assumption)
    (case hi => assumption)
    (case hl => (simp only [List.length_take, List.length_drop]; omega))
    intro h2 tk2 Dn kl nl F2 hN k1 k2 k3 N2 off2
    show wpAny _ _ (execs _ _) _ _ _
    refine wpAny_execs_cons ?_
    refine' text0_step (kl := kl) ?zKX ?zT (fr_at (x := Str.ofString "octets") F2 ?ze) (news_dup N2 (List.mem_append_right _ ?zN) N2) ?zhi ?zhl ?zhr ?_
    (case zKX => k_asm)
    (case zT => k_asm)
    (case ze => (show (if _ then _ else if _ then _ else _) = _; rw [if_neg (by decide), if_pos rfl]))
    (case zN => exact .tail _ (.tail _ (.tail _ (.head _))))
    (case zhi => assumption)
    (case zhl => (simp only [List.length_map, List.length_take, List.length_drop]; omega))
    (case zhr => (intro k hk; obtain ⟨x, _, rfl⟩ := List.mem_map.mp hk; exact ⟨Int.fmod_nonneg_of_pos _ (by omega), Int.fmod_lt_of_pos _ (by omega)⟩))
    intro h3 tk3 tb F3 N3
    show wpAny _ _ (execs _ _) _ _ _
    refine wpAny_execs_cons ?_
    refine' outer_step (kl := kl) (keep := (_, LCg.lst _) :: nl) ?yK0 ?yKX ?yT F3 ?ym1 ?ym2 (if_pos rfl) ?yN ?yoff ?yd ?ydj ?ydf (hN.mono fun q hq => .tail _ hq) (.head _) ?yhi ?yhl ?yhr k1 k2 k3 ?_
    (case yK0 => k_asm)
    (case yKX => k_asm)
    (case yT => k_asm)
    (case ym1 => (show (if _ then _ else if _ then _ else _) = _; rw [if_neg (by decide), if_pos rfl]))
    (case ym2 => (show (if _ then _ else if _ then _ else if _ then _ else _) = _; rw [if_neg (by decide), if_neg (by decide), if_pos rfl]))
    (case yN => exact news_dup N3 (List.mem_append_right _ (by k_mem)) (news_dup N3 (List.mem_append_right _ (by k_mem)) (news_dup N3 (List.mem_append_right _ (by k_mem)) (news_dup N3 (List.mem_append_right _ (.tail _ (.tail _ (.tail _ (.head _))))) (fun q hq => N3 q (List.mem_append_left _ hq))))))
    (case yoff =>
      rename _ ≠ _ ∧ _ ≠ _ ∧ _ ≠ _ ∧ _ => o8
      intro q hq
      rcases List.mem_cons.mp hq with e | hq
      · rw [e]; exact ⟨fun e => o8.2.2.2.1 e.symm, fun e => o8.2.2.1 e.symm⟩
      · constructor
        · exact off2 q hq (_, _) (.tail _ (.tail _ (.tail _ (by k_mem))))
        · exact off2 q hq (_, _) (.tail _ (.tail _ (.tail _ (by k_mem)))))
    (case yd => assumption)
    (case ydj => assumption)
    (case ydf => assumption)
    (case yhi => assumption)
    (case yhl => (simp only [List.length_map, List.length_take, List.length_drop]; omega))
    (case yhr => (intro k hk; obtain ⟨x, _, rfl⟩ := List.mem_map.mp hk; exact ⟨Int.fmod_nonneg_of_pos _ (by omega), Int.fmod_lt_of_pos _ (by omega)⟩))
    intro h4 tk4 m4 F4
    show wpAny _ _ (execs _ _) _ _ _
    k_steps
)
end Mine
end

theorem PySem.Challenge.cw_io0058_01_holds : PySem.Challenge.rw_io0058_01.Holds := by
  exact Mine.walk
