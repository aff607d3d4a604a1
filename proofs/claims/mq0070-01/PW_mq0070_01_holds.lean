import PyProof.Rows.All
import Wide.All
import OpenK.AllK
import Wide.FinOn
import Lean
import PySem.Challenge.RW_mq0070_01
open PySem PySem.W PyProof.Rows
set_option Elab.async false
set_option maxRecDepth 100000
set_option maxHeartbeats 8000000
set_option linter.unusedVariables false
/-! The law mq0070-01, by contracts: each def of the law's text is walked once (Gives), over plain laws of lists of code points. -/
namespace Mine
open_top hd for PySem.Challenge.rw_mq0070_01
end Mine

namespace Mine
/-- a text by its code points -/
def S (l : List Nat) : Str := ⟨l.toArray⟩
def C (x : Str) : List Nat := x.cps.toList
theorem S_C (x : Str) : S (C x) = x := by cases x; rfl
theorem C_S (l : List Nat) : C (S l) = l := rfl
theorem C_length (x : Str) : (C x).length = x.length := by simp [C, PySem.Str.length]
theorem C_append (a b : Str) : C (a ++ b) = C a ++ C b := by simp [C, PySem.Str.cps_append]
theorem S_length (l : List Nat) : (S l).length = l.length := rfl
theorem S_append (a b : List Nat) : S a ++ S b = S (a ++ b) := PySem.Str.ext' (by rw [PySem.Str.cps_append]; simp [S])
theorem S_inj {a b : List Nat} (h : S a = S b) : a = b := by have := congrArg (fun x => x.cps.toList) h; simpa [S] using this

/-- white, as the law writes it -/
def wh (c : Nat) : Bool := c == 9 || c == 10 || c == 13 || c == 28 || c == 32 || c == 12288
/-- the text's signs are of a kind on which the law's white and Python's white agree -/
def Good (l : List Nat) : Prop := ∀ c ∈ l, Unicode.isSpace c = wh c ∧ c < 20000

/-- without the white signs at its end -/
def cut (l : List Nat) : List Nat := (l.reverse.dropWhile wh).reverse
def bare (l : List Nat) : List Nat := cut (l.dropWhile wh)
/-- the rows -/
def lines : List Nat → List (List Nat)
  | [] => [[]]
  | c :: r => if c = 10 then [] :: lines r else match lines r with
    | h :: t => (c :: h) :: t
    | [] => [[c]]
def joinN : List (List Nat) → List Nat
  | [] => []
  | [a] => a
  | a :: b :: r => a ++ 10 :: joinN (b :: r)
def rows (l : List Nat) : List (List Nat) := (lines l).map cut
def cm (r : List Nat) : List Nat := if r = [] then [35] else 35 :: 32 :: r
def comment (l : List Nat) : List Nat := joinN ((rows l).map cm)
/-- the pair of splitdoc, of a bare text's rows -/
def pairOf (b : List Nat) : List Nat × List Nat := match lines b with
  | [] => (b, [])
  | [_] => (b, [])
  | h :: s :: r => if cut s = [] then (h, joinN r) else ([], b)
def pair (l : List Nat) : List Nat × List Nat := pairOf (bare l)
def nameGo : List Nat → List Nat → List Nat
  | hand, [] => hand
  | hand, c :: r => if c = 58 ∨ c = 10 then hand else nameGo (if c = 46 then [] else hand ++ [c]) r
def name (l : List Nat) : List Nat := nameGo [] l
/-- the places of the signs that aren't white -/
def solidG (l : List Nat) (a : List Int) (k : Int) : List Int := if wh (l.getD k.toNat 0) then a else a ++ [k]
def solid (l : List Nat) : List Int := (rangeKs 0 l.length).foldl (solidG l) []

/-- what a call of the def at f with the values vs gives: Out of the value and of the objects laid upon the ledger -/
def Gives (w : World) (f : Addr) (d : Nat) (vs : List Value) (Pre : List (Addr × Obj) → Prop) (Out : List (Addr × Obj) → Value → Prop) : Prop :=
  ∀ (mean : ExcName → Option Value) (mg mb : Str → Option Value) (dp un : Nat) (gd : Option (List Code)) (cn : Str) (cs : Scope) (a : Addr) (ccd : Value) (cl : List (Str × Addr)) (outer : List Env) (A₀ : Around) (base h₀ : Heap) (L : Addr) (m : Str → Option Value) (news : List (Addr × Obj)) (s : Shared) (Q E : Value → Shared → Prop),
    Below A₀ base outer h₀ → Fr h₀ L s.heap m → (hd.heap_39 w.params).In h₀ → News h₀ L s.heap news → Top hd.view_39 (looseW hd.view_39 []) mean mg mb h₀ → cs.kind = .function → dp + d < recursionLimit → un + 8 * d < cLine → Pre news →
    (∀ v new h' tk', Fr h₀ L h' m → News h₀ L h' (new ++ news) → (∀ q ∈ new, LCg.Off1 q.1 news) → Out new v → Q v { s with heap := h', toks := tk' }) →
    wpAny (model PySem.Challenge.rw_mq0070_01.row.prog w) (ktrTop dp un gd cn cs L a ccd cl outer) (call (.ref f) vs) Q E s

def OutS (y : Str) (new : List (Addr × Obj)) (v : Value) : Prop := new = [] ∧ ∃ t, v = .str y t
def OutB (b : Bool) (new : List (Addr × Obj)) (v : Value) : Prop := new = [] ∧ v = .bool b
def OutP (y z : Str) (new : List (Addr × Obj)) (v : Value) : Prop := ∃ D t u, new = [(D, ({ cls := .type "tuple", data := .seq #[.str y t, .str z u] 0 } : Obj))] ∧ v = .ref D
def OutI (ns : List Int) (new : List (Addr × Obj)) (v : Value) : Prop := ∃ D vs, new = [(D, LCg.lst vs)] ∧ v = .ref D ∧ IntsAre vs ns
def OutL (ys : List Str) (new : List (Addr × Obj)) (v : Value) : Prop := ∃ D vs n, new = [(D, listOf vs.toArray n)] ∧ v = .ref D ∧ StrsAre vs ys

theorem off_of_lt {D : Addr} : ∀ {l : List (Addr × Obj)}, (∀ p ∈ l, p.1 < D) → LCg.Off1 D l
  | [], _ => trivial
  | p :: r, h => ⟨Nat.ne_of_lt (h p (.head _)), off_of_lt fun q hq => h q (.tail _ hq)⟩
theorem off_of_allLt {D : Addr} : ∀ {l : List (Addr × Obj)}, AllLt D l → LCg.Off1 D l
  | [], _ => trivial
  | _ :: _, h => ⟨Nat.ne_of_lt h.1, off_of_allLt h.2⟩
section
variable {h₀ h' : Heap} {L : Addr} {m : Str → Option Value} {news news' : List (Addr × Obj)} {s : Shared} {Q : Value → Shared → Prop} {t : Tok} {tk' : Nat}
theorem endS {y y' : Str} (hret : ∀ v new h' tk', Fr h₀ L h' m → News h₀ L h' (new ++ news) → (∀ q ∈ new, LCg.Off1 q.1 news) → OutS y new v → Q v { s with heap := h', toks := tk' })
    (F : Fr h₀ L h' m) (N : News h₀ L h' news') (sub : ∀ p ∈ news, p ∈ news') (e : y' = y) : Q (.str y' t) { s with heap := h', toks := tk' } :=
  hret _ [] _ _ F (fun p hp => N p (sub p hp)) (fun _ h => nomatch h) ⟨rfl, t, by rw [e]⟩
theorem endB {y y' : Bool} (hret : ∀ v new h' tk', Fr h₀ L h' m → News h₀ L h' (new ++ news) → (∀ q ∈ new, LCg.Off1 q.1 news) → OutB y new v → Q v { s with heap := h', toks := tk' })
    (F : Fr h₀ L h' m) (N : News h₀ L h' news') (sub : ∀ p ∈ news, p ∈ news') (e : y' = y) : Q (.bool y') { s with heap := h', toks := tk' } :=
  hret _ [] _ _ F (fun p hp => N p (sub p hp)) (fun _ h => nomatch h) ⟨rfl, by rw [e]⟩
theorem endOne {Out : List (Addr × Obj) → Value → Prop} {D : Addr} {o : Obj} (hret : ∀ v new h' tk', Fr h₀ L h' m → News h₀ L h' (new ++ news) → (∀ q ∈ new, LCg.Off1 q.1 news) → Out new v → Q v { s with heap := h', toks := tk' })
    (F : Fr h₀ L h' m) (N : News h₀ L h' news') (sub : ∀ p ∈ (D, o) :: news, p ∈ news') (off : LCg.Off1 D news) (out : Out [(D, o)] (.ref D)) : Q (.ref D) { s with heap := h', toks := tk' } :=
  hret _ [(D, o)] _ _ F (fun p hp => N p (sub p hp)) (fun q h => by rcases List.mem_cons.mp h with rfl | h; exact off; cases h) out
end
section
variable {w : World} {f : Addr} {d : Nat} {vs : List Value} {Pre : List (Addr × Obj) → Prop} {mean : ExcName → Option Value} {mg mb : Str → Option Value} {dp un : Nat} {gd : Option (List Code)} {cn : Str} {cs : Scope} {a : Addr} {ccd : Value} {cl : List (Str × Addr)} {outer : List Env} {A₀ : Around} {base h₀ : Heap} {L : Addr} {m : Str → Option Value} {news : List (Addr × Obj)} {s : Shared} {Q E : Value → Shared → Prop}
theorem useS {y : Str} (G : Gives w f d vs Pre (OutS y)) (B : Below A₀ base outer h₀) (F : Fr h₀ L s.heap m) (X : (hd.heap_39 w.params).In h₀) (N : News h₀ L s.heap news) (T : Top hd.view_39 (looseW hd.view_39 []) mean mg mb h₀) (hk : cs.kind = .function) (hd : dp + d < recursionLimit) (hu : un + 8 * d < cLine) (hp : Pre news)
    (ret : ∀ t h' tk', Fr h₀ L h' m → News h₀ L h' news → Q (.str y t) { s with heap := h', toks := tk' }) :
    wpAny (model PySem.Challenge.rw_mq0070_01.row.prog w) (ktrTop dp un gd cn cs L a ccd cl outer) (call (.ref f) vs) Q E s :=
  G _ _ _ _ _ _ _ _ _ _ _ _ _ _ _ _ _ _ _ _ _ B F X N T hk hd hu hp fun v new h' tk' F' N' _ ho => by obtain ⟨rfl, t, rfl⟩ := ho; exact ret t h' tk' F' N'
theorem useB {y : Bool} (G : Gives w f d vs Pre (OutB y)) (B : Below A₀ base outer h₀) (F : Fr h₀ L s.heap m) (X : (hd.heap_39 w.params).In h₀) (N : News h₀ L s.heap news) (T : Top hd.view_39 (looseW hd.view_39 []) mean mg mb h₀) (hk : cs.kind = .function) (hd : dp + d < recursionLimit) (hu : un + 8 * d < cLine) (hp : Pre news)
    (ret : ∀ h' tk', Fr h₀ L h' m → News h₀ L h' news → Q (.bool y) { s with heap := h', toks := tk' }) :
    wpAny (model PySem.Challenge.rw_mq0070_01.row.prog w) (ktrTop dp un gd cn cs L a ccd cl outer) (call (.ref f) vs) Q E s :=
  G _ _ _ _ _ _ _ _ _ _ _ _ _ _ _ _ _ _ _ _ _ B F X N T hk hd hu hp fun v new h' tk' F' N' _ ho => by obtain ⟨rfl, rfl⟩ := ho; exact ret h' tk' F' N'
theorem useP {y z : Str} (G : Gives w f d vs Pre (OutP y z)) (B : Below A₀ base outer h₀) (F : Fr h₀ L s.heap m) (X : (hd.heap_39 w.params).In h₀) (N : News h₀ L s.heap news) (T : Top hd.view_39 (looseW hd.view_39 []) mean mg mb h₀) (hk : cs.kind = .function) (hd : dp + d < recursionLimit) (hu : un + 8 * d < cLine) (hp : Pre news)
    (ret : ∀ D t u h' tk', Fr h₀ L h' m → News h₀ L h' ((D, ({ cls := .type "tuple", data := .seq #[.str y t, .str z u] 0 } : Obj)) :: news) → LCg.Off1 D news → Q (.ref D) { s with heap := h', toks := tk' }) :
    wpAny (model PySem.Challenge.rw_mq0070_01.row.prog w) (ktrTop dp un gd cn cs L a ccd cl outer) (call (.ref f) vs) Q E s :=
  G _ _ _ _ _ _ _ _ _ _ _ _ _ _ _ _ _ _ _ _ _ B F X N T hk hd hu hp fun v new h' tk' F' N' ho' ho => by obtain ⟨D, t, u, rfl, rfl⟩ := ho; exact ret D t u h' tk' F' N' (ho' _ (.head _))
theorem useI {ns : List Int} (G : Gives w f d vs Pre (OutI ns)) (B : Below A₀ base outer h₀) (F : Fr h₀ L s.heap m) (X : (hd.heap_39 w.params).In h₀) (N : News h₀ L s.heap news) (T : Top hd.view_39 (looseW hd.view_39 []) mean mg mb h₀) (hk : cs.kind = .function) (hd : dp + d < recursionLimit) (hu : un + 8 * d < cLine) (hp : Pre news)
    (ret : ∀ D vs h' tk', Fr h₀ L h' m → News h₀ L h' ((D, LCg.lst vs) :: news) → LCg.Off1 D news → IntsAre vs ns → Q (.ref D) { s with heap := h', toks := tk' }) :
    wpAny (model PySem.Challenge.rw_mq0070_01.row.prog w) (ktrTop dp un gd cn cs L a ccd cl outer) (call (.ref f) vs) Q E s :=
  G _ _ _ _ _ _ _ _ _ _ _ _ _ _ _ _ _ _ _ _ _ B F X N T hk hd hu hp fun v new h' tk' F' N' ho' ho => by obtain ⟨D, vs, rfl, rfl, hi⟩ := ho; exact ret D vs h' tk' F' N' (ho' _ (.head _)) hi
theorem useL {ys : List Str} (G : Gives w f d vs Pre (OutL ys)) (B : Below A₀ base outer h₀) (F : Fr h₀ L s.heap m) (X : (hd.heap_39 w.params).In h₀) (N : News h₀ L s.heap news) (T : Top hd.view_39 (looseW hd.view_39 []) mean mg mb h₀) (hk : cs.kind = .function) (hd : dp + d < recursionLimit) (hu : un + 8 * d < cLine) (hp : Pre news)
    (ret : ∀ D vs n h' tk', Fr h₀ L h' m → News h₀ L h' ((D, listOf vs.toArray n) :: news) → LCg.Off1 D news → StrsAre vs ys → Q (.ref D) { s with heap := h', toks := tk' }) :
    wpAny (model PySem.Challenge.rw_mq0070_01.row.prog w) (ktrTop dp un gd cn cs L a ccd cl outer) (call (.ref f) vs) Q E s :=
  G _ _ _ _ _ _ _ _ _ _ _ _ _ _ _ _ _ _ _ _ _ B F X N T hk hd hu hp fun v new h' tk' F' N' ho' ho => by obtain ⟨D, vs, n, rfl, rfl, hi⟩ := ho; exact ret D vs n h' tk' F' N' (ho' _ (.head _)) hi
end
end Mine

namespace Mine
theorem C_getD (x : Str) (k : Nat) (hk : k < x.length) : ∃ h : k < (C x).length, (C x).getD k 0 = (C x)[k] := by
  have h : k < (C x).length := by rw [C_length]; exact hk
  exact ⟨h, by simp [List.getD_eq_getElem?_getD, List.getElem?_eq_getElem h]⟩
theorem item_eq (x : Str) (k : Int) (h0 : 0 ≤ k) (h1 : k < x.length) : Txt.item x k = ⟨#[(C x).getD k.toNat 0]⟩ := by
  unfold Txt.item Txt.charAt
  rw [StrLaws.seqIndex_nonneg h0 h1]
  have : x.cps[k.toNat]? = (C x)[k.toNat]? := by simp [C]
  simp [this, List.getD_eq_getElem?_getD]
theorem in_white (c : Nat) : (Builtin.Str.occurrences (Str.ofString "\t\n\r\x1c \u3000") ⟨#[c]⟩ 0 (Str.ofString "\t\n\r\x1c \u3000").length 1).isEmpty = !wh c := by
  have h := StrLaws.found_one (Str.ofString "\t\n\r\x1c \u3000") c
  have e : (Str.ofString "\t\n\r\x1c \u3000").cps.toList = [9, 10, 13, 28, 32, 12288] := by decide +kernel
  rw [e] at h
  have : decide (c ∈ [9, 10, 13, 28, 32, 12288]) = wh c := by
    rw [Bool.eq_iff_iff]; simp [wh, or_assoc]
  rw [this] at h
  rw [← h, Bool.not_not]
theorem solid_yes {x : Str} {k : Int} {l : List Int} (h0 : 0 ≤ k) (h1 : k < 0 + ((((x.length : Nat) : Int) - 0).toNat : Nat)) (h : (Builtin.Str.occurrences (Str.ofString "\t\n\r\x1c \u3000") (Txt.item x k) 0 (Str.ofString "\t\n\r\x1c \u3000").length 1).isEmpty = true) : solidG (C x) l k = l ++ [k] := by
  rw [item_eq x k h0 (by omega), in_white] at h
  unfold solidG
  simp only [Bool.not_eq_true'] at h
  rw [h]; rfl
theorem solid_no {x : Str} {k : Int} {l : List Int} (h0 : 0 ≤ k) (h1 : k < 0 + ((((x.length : Nat) : Int) - 0).toNat : Nat)) (h : (Builtin.Str.occurrences (Str.ofString "\t\n\r\x1c \u3000") (Txt.item x k) 0 (Str.ofString "\t\n\r\x1c \u3000").length 1).isEmpty = false) : solidG (C x) l k = l := by
  rw [item_eq x k h0 (by omega), in_white] at h
  unfold solidG
  simp only [Bool.not_eq_false'] at h
  rw [h]; rfl
theorem solid_grows (l : List Nat) : KPfGrows (solidG l) := fun a k => by unfold solidG; split <;> simp

theorem solid_end {x : Str} {ys : List Value} (h : IntsAre ys ((rangeKs 0 (((x.length : Nat) : Int) - 0).toNat).foldl (solidG (C x)) [])) : IntsAre ys (solid (C x)) := by
  unfold solid
  rw [C_length]
  have e : (((x.length : Nat) : Int) - 0).toNat = x.length := by omega
  rw [e] at h
  exact h
end Mine
namespace Mine
theorem solid_len (l : List Nat) : (solid l).length ≤ l.length := by
  have h := kpf_len (g := solidG l) (solid_grows l) (rangeKs 0 l.length) []
  rw [rangeKs_length] at h
  simpa [solid] using h
theorem solid_len' (x : Str) : (solid (C x)).length ≤ x.length := by
  have := solid_len (C x); rw [C_length] at this; exact this
end Mine

namespace Mine
def nat (pre : List Int) : List Nat := pre.map Int.toNat
theorem nat_snoc (pre : List Int) (n : Nat) : nat (pre ++ [(n : Int)]) = nat pre ++ [n] := by simp [nat]
theorem nat_codes (x : Str) : nat (KStt.codes x) = C x := by
  have e : (KStt.codes x).map Int.toNat = x.cps.toList := by
    unfold KStt.codes
    rw [List.map_map]
    exact (List.map_congr_left (g := _root_.id) fun c _ => Int.toNat_natCast c).trans (List.map_id _)
  exact e
theorem nat_split {x : Str} {pre post : List Int} {n : Nat} (h : KStt.codes x = pre ++ (n : Int) :: post) : C x = nat pre ++ n :: nat post := by
  rw [← nat_codes, h]; simp [nat]
theorem C_one (n : Nat) : C ⟨#[n]⟩ = [n] := rfl
theorem eq_S_of {h : Str} {l : List Nat} (e : C h = l) : h = S l := by rw [← e, S_C]
def NameInv (pre : List Int) (hand : Str) : Prop := ∀ r, nameGo [] (nat pre ++ r) = nameGo (C hand) r
theorem in_stop (c : Nat) : (Builtin.Str.occurrences (Str.ofString ":\n") ⟨#[c]⟩ 0 (Str.ofString ":\n").length 1).isEmpty = !(decide (c = 58 ∨ c = 10)) := by
  have h := StrLaws.found_one (Str.ofString ":\n") c
  have e : (Str.ofString ":\n").cps.toList = [58, 10] := by decide +kernel
  rw [e] at h
  have : decide (c ∈ [58, 10]) = decide (c = 58 ∨ c = 10) := by
    rw [Bool.eq_iff_iff]; simp
  rw [this] at h
  rw [← h, Bool.not_not]
theorem one_eq (c d : Nat) (s : Str) (hs : s = ⟨#[d]⟩) : ((⟨#[c]⟩ : Str) == s) = decide (c = d) := by
  subst hs
  rw [Bool.eq_iff_iff]
  simp
theorem name_start : NameInv [] (Str.ofString "") ∧ (Str.ofString "").length ≤ ([] : List Int).length := ⟨fun r => rfl, Nat.le_refl _⟩
theorem name_dot {pre : List Int} {h : Str} {n : Nat} (hi : NameInv pre h) (hl : h.length ≤ pre.length) (h1 : (Builtin.Str.occurrences (Str.ofString ":\n") ⟨#[n]⟩ 0 (Str.ofString ":\n").length 1).isEmpty = true) (h2 : ((⟨#[n]⟩ : Str) == Str.ofString ".") = true) :
    NameInv (pre ++ [(n : Int)]) (Str.ofString "") ∧ (Str.ofString "").length ≤ (pre ++ [(n : Int)]).length := by
  rw [in_stop] at h1
  rw [one_eq n 46 _ (by decide +kernel)] at h2
  simp only [Bool.not_eq_true', decide_eq_false_iff_not] at h1
  simp only [decide_eq_true_eq] at h2
  refine ⟨fun r => ?_, Nat.zero_le _⟩
  rw [nat_snoc, List.append_assoc, hi]
  simp only [List.cons_append, List.nil_append, nameGo, if_neg h1, if_pos h2]
  rfl
theorem name_add {pre : List Int} {h : Str} {n : Nat} (hi : NameInv pre h) (hl : h.length ≤ pre.length) (h1 : (Builtin.Str.occurrences (Str.ofString ":\n") ⟨#[n]⟩ 0 (Str.ofString ":\n").length 1).isEmpty = true) (h2 : ((⟨#[n]⟩ : Str) == Str.ofString ".") = false) :
    NameInv (pre ++ [(n : Int)]) (h ++ ⟨#[n]⟩) ∧ (h ++ ⟨#[n]⟩ : Str).length ≤ (pre ++ [(n : Int)]).length := by
  rw [in_stop] at h1
  rw [one_eq n 46 _ (by decide +kernel)] at h2
  simp only [Bool.not_eq_true', decide_eq_false_iff_not] at h1
  simp only [decide_eq_false_iff_not] at h2
  refine ⟨fun r => ?_, ?_⟩
  · rw [nat_snoc, List.append_assoc, hi]
    simp only [List.cons_append, List.nil_append, nameGo, if_neg h1, if_neg h2]
    rw [C_append, C_one]
  · rw [PySem.Str.length_append, List.length_append]
    exact Nat.add_le_add hl (Nat.le_refl 1)
theorem name_brk {x : Str} {pre post : List Int} {h : Str} {n : Nat} (he : KStt.codes x = pre ++ (n : Int) :: post) (hi : NameInv pre h) (hl : h.length ≤ pre.length) (h1 : (Builtin.Str.occurrences (Str.ofString ":\n") ⟨#[n]⟩ 0 (Str.ofString ":\n").length 1).isEmpty = false) :
    h = S (name (C x)) := by
  rw [in_stop] at h1
  simp only [Bool.not_eq_false', decide_eq_true_eq] at h1
  refine eq_S_of ?_
  rw [nat_split he]
  unfold name
  rw [hi]
  simp only [nameGo, if_pos h1]
theorem name_done {x h : Str} (hi : NameInv (KStt.codes x) h) : h = S (name (C x)) := by
  refine eq_S_of ?_
  have := hi []
  rw [List.append_nil, nat_codes] at this
  exact this.symm
end Mine

namespace Mine
theorem lines_ne : ∀ l : List Nat, ∃ h t, lines l = h :: t
  | [] => ⟨[], [], rfl⟩
  | c :: r => by
    obtain ⟨h, t, e⟩ := lines_ne r
    unfold lines
    by_cases hc : c = 10
    · exact ⟨_, _, if_pos hc⟩
    · rw [if_neg hc, e]; exact ⟨_, _, rfl⟩
theorem lines_nl (r : List Nat) : lines (10 :: r) = [] :: lines r := by rw [lines, if_pos rfl]
theorem lines_ch {c : Nat} (hc : c ≠ 10) {r h : List Nat} {t : List (List Nat)} (e : lines r = h :: t) : lines (c :: r) = (c :: h) :: t := by rw [lines, if_neg hc, e]
theorem lines_snoc_nl : ∀ l : List Nat, lines (l ++ [10]) = lines l ++ [[]]
  | [] => rfl
  | c :: r => by
    obtain ⟨h, t, e⟩ := lines_ne r
    have ih := lines_snoc_nl r
    by_cases hc : c = 10
    · subst hc; rw [List.cons_append, lines_nl, lines_nl, ih]; rfl
    · rw [List.cons_append, lines_ch hc (h := h) (t := t ++ [[]]) (by rw [ih, e]; rfl), lines_ch hc e]; rfl
theorem lines_snoc_ch {n : Nat} (hn : n ≠ 10) : ∀ (l : List Nat) (ls : List (List Nat)) (r : List Nat), lines l = ls ++ [r] → lines (l ++ [n]) = ls ++ [r ++ [n]]
  | [], ls, r, h => by
    cases ls with
    | nil => simp only [lines, List.nil_append, List.cons.injEq, and_true] at h; subst h; simp [lines, hn]
    | cons a b => simp [lines] at h
  | c :: l, ls, r, h => by
    obtain ⟨a, t, e⟩ := lines_ne l
    by_cases hc : c = 10
    · subst hc
      rw [lines_nl] at h
      rw [List.cons_append, lines_nl]
      cases ls with
      | nil => simp [e] at h
      | cons b bs =>
        simp only [List.cons_append, List.cons.injEq] at h ⊢
        exact ⟨h.1, lines_snoc_ch hn l bs r h.2⟩
    · rw [lines_ch hc e] at h
      cases ls with
      | nil =>
        simp only [List.nil_append, List.cons.injEq] at h
        have ih := lines_snoc_ch hn l [] a (by rw [e, h.2]; rfl)
        rw [List.cons_append, lines_ch hc ih, ← h.1]; rfl
      | cons b bs =>
        simp only [List.cons_append, List.cons.injEq] at h ⊢
        have ih := lines_snoc_ch hn l (a :: bs) r (by rw [e, h.2]; rfl)
        rw [lines_ch hc ih, ← h.1]; rfl
def RowsInv (pre : List Int) (rs : List Str) (row : Str) : Prop := ∃ ls : List (List Nat), lines (nat pre) = ls ++ [C row] ∧ rs = ls.map fun l => S (cut l)
theorem rows_start : RowsInv [] [] (Str.ofString "") ∧ (Str.ofString "").length ≤ ([] : List Int).length ∧ ([] : List Str).length ≤ ([] : List Int).length := ⟨⟨[], rfl, rfl⟩, Nat.le_refl _, Nat.le_refl _⟩
theorem rows_nl {pre : List Int} {rs : List Str} {row : Str} {n : Nat} (hi : RowsInv pre rs row) (hl : rs.length ≤ pre.length) (h2 : ((⟨#[n]⟩ : Str) == Str.ofString "\n") = true) :
    RowsInv (pre ++ [(n : Int)]) (rs ++ [S (cut (C row))]) (Str.ofString "") ∧ (Str.ofString "").length ≤ (pre ++ [(n : Int)]).length ∧ (rs ++ [S (cut (C row))]).length ≤ (pre ++ [(n : Int)]).length := by
  rw [one_eq n 10 _ (by decide +kernel)] at h2
  simp only [decide_eq_true_eq] at h2
  obtain ⟨ls, e, hr⟩ := hi
  refine ⟨⟨ls ++ [C row], ?_, ?_⟩, Nat.zero_le _, ?_⟩
  · rw [nat_snoc, h2, lines_snoc_nl, e]; rfl
  · rw [hr]; simp
  · simp only [List.length_append, List.length_cons, List.length_nil]; omega
theorem rows_ch {pre : List Int} {rs : List Str} {row : Str} {n : Nat} (hi : RowsInv pre rs row) (hr : row.length ≤ pre.length) (hl : rs.length ≤ pre.length) (h2 : ((⟨#[n]⟩ : Str) == Str.ofString "\n") = false) :
    RowsInv (pre ++ [(n : Int)]) rs (row ++ ⟨#[n]⟩) ∧ (row ++ ⟨#[n]⟩ : Str).length ≤ (pre ++ [(n : Int)]).length ∧ rs.length ≤ (pre ++ [(n : Int)]).length := by
  rw [one_eq n 10 _ (by decide +kernel)] at h2
  simp only [decide_eq_false_iff_not] at h2
  obtain ⟨ls, e, hr'⟩ := hi
  refine ⟨⟨ls, ?_, hr'⟩, ?_, ?_⟩
  · rw [nat_snoc, C_append, C_one]; exact lines_snoc_ch h2 _ _ _ e
  · rw [PySem.Str.length_append, List.length_append]; exact Nat.add_le_add hr (Nat.le_refl 1)
  · rw [List.length_append]; omega
theorem rows_done {x row : Str} {rs : List Str} (hi : RowsInv (KStt.codes (x ++ Str.ofString "\n")) rs row) : rs = (rows (C x)).map S := by
  obtain ⟨ls, e, hr⟩ := hi
  rw [nat_codes, C_append, show C (Str.ofString "\n") = [10] by decide +kernel, lines_snoc_nl] at e
  have := (List.append_inj' e rfl).1
  rw [hr, ← this]; simp [rows, Function.comp_def]
end Mine
namespace Mine
theorem nl_len {x : Str} (h : x.length ≤ 90000) : (x ++ Str.ofString "\n").length ≤ 90001 := by
  rw [PySem.Str.length_append, show (Str.ofString "\n").length = 1 by decide +kernel]; omega
theorem rows_end {x y row : Str} {rs : List Str} {vs : List Value} (hy : x ++ Str.ofString "\n" = y) (hi : RowsInv (KStt.codes y) rs row) (hs : StrsAre vs rs) : StrsAre vs ((rows (C x)).map S) := by
  subst hy; rw [← rows_done hi]; exact hs
end Mine

namespace Mine
theorem cut_nil : cut [] = [] := rfl
theorem cut_snoc (l : List Nat) (c : Nat) : cut (l ++ [c]) = if wh c then cut l else l ++ [c] := by
  unfold cut
  rw [List.reverse_append, List.reverse_singleton, List.singleton_append, List.dropWhile_cons]
  split
  · rfl
  · simp
theorem cut_len (l : List Nat) : (cut l).length ≤ l.length := by
  unfold cut
  rw [List.length_reverse]
  exact Nat.le_trans (List.dropWhile_sublist _).length_le (by simp)
theorem snoc_ind {P : List Nat → Prop} (h0 : P []) (h1 : ∀ l c, P l → P (l ++ [c])) : ∀ l, P l := by
  have key : ∀ n (l : List Nat), l.length = n → P l := by
    intro n
    induction n with
    | zero => intro l hl; rw [List.eq_nil_of_length_eq_zero hl]; exact h0
    | succ n ih =>
      intro l hl
      rcases List.eq_nil_or_concat l with e | ⟨L, b, e⟩
      · rw [e] at hl; simp at hl
      · rw [List.concat_eq_append] at e
        rw [e]
        rw [e] at hl
        exact h1 L b (ih L (by simpa using hl))
  exact fun l => key _ l rfl
theorem cut_pre : ∀ l : List Nat, ∃ t, l = cut l ++ t ∧ ∀ c ∈ t, wh c = true := by
  refine snoc_ind ⟨[], rfl, fun _ h => nomatch h⟩ ?_
  intro l c ⟨t, e, ht⟩
  rw [cut_snoc]
  split
  · rename_i hc
    refine ⟨t ++ [c], by rw [← List.append_assoc, ← e], ?_⟩
    intro d hd
    rcases List.mem_append.mp hd with hd | hd
    · exact ht d hd
    · rw [List.mem_singleton.mp hd]; exact hc
  · exact ⟨[], by simp, fun _ h => nomatch h⟩
theorem cut_take (l : List Nat) : cut l = l.take (cut l).length := by
  obtain ⟨t, e, _⟩ := cut_pre l
  have : (cut l ++ t).take (cut l).length = cut l := by simp
  rw [← e] at this; exact this.symm
theorem cut_white : ∀ (t l : List Nat), (∀ c ∈ t, wh c = true) → cut (l ++ t) = cut l := by
  refine snoc_ind (fun l _ => by rw [List.append_nil]) ?_
  intro t c ih l h
  rw [← List.append_assoc, cut_snoc, if_pos (h c (by simp))]
  exact ih l fun d hd => h d (by simp [hd])
theorem cut_cut (l : List Nat) : cut (cut l) = cut l := by
  obtain ⟨t, e, ht⟩ := cut_pre l
  have := cut_white t (cut l) ht
  rw [← e] at this; exact this.symm
theorem cut_cons (c : Nat) : ∀ l : List Nat, cut (c :: l) = if cut l = [] then (if wh c then [] else [c]) else c :: cut l := by
  refine snoc_ind ?_ ?_
  · have := cut_snoc [] c
    rw [cut_nil] at this ⊢
    simpa using this
  · intro l d ih
    rw [← List.cons_append, cut_snoc, cut_snoc, ih]
    by_cases hd : wh d = true
    · simp [hd]
    · simp [hd]
theorem cut_nil_white {l : List Nat} (h : cut l = []) : ∀ c ∈ l, wh c = true := by
  obtain ⟨t, e, ht⟩ := cut_pre l
  rw [h, List.nil_append] at e
  rw [e]; exact ht
theorem white_cut_nil {l : List Nat} (h : ∀ c ∈ l, wh c = true) : cut l = [] := by
  have := cut_white l [] h
  simpa [cut_nil] using this
theorem cut_mem {l : List Nat} {c : Nat} (h : c ∈ cut l) : c ∈ l := by
  obtain ⟨t, e, _⟩ := cut_pre l
  rw [e]; exact List.mem_append_left _ h
theorem dw_mem {p : Nat → Bool} {l : List Nat} {c : Nat} (h : c ∈ l.dropWhile p) : c ∈ l := (List.dropWhile_sublist p).subset h
theorem cut_good {l : List Nat} (h : Good l) : Good (cut l) := fun c hc => h c (cut_mem hc)
theorem bare_good {l : List Nat} (h : Good l) : Good (bare l) := fun c hc => h c (dw_mem (cut_mem hc))
theorem bare_len (l : List Nat) : (bare l).length ≤ l.length := Nat.le_trans (cut_len _) (List.dropWhile_sublist _).length_le
theorem dropWhile_good {l : List Nat} (h : Good l) : l.dropWhile Unicode.isSpace = l.dropWhile wh := by
  induction l with
  | nil => rfl
  | cons c r ih =>
    rw [List.dropWhile_cons, List.dropWhile_cons, (h c List.mem_cons_self).1, ih fun d hd => h d (List.mem_cons_of_mem _ hd)]
theorem takeWhile_good {l : List Nat} (h : Good l) : l.takeWhile Unicode.isSpace = l.takeWhile wh := by
  induction l with
  | nil => rfl
  | cons c r ih =>
    rw [List.takeWhile_cons, List.takeWhile_cons, (h c List.mem_cons_self).1, ih fun d hd => h d (List.mem_cons_of_mem _ hd)]
theorem cut_as_take (l : List Nat) : cut l = l.take (l.length - (l.reverse.takeWhile wh).length) := by
  have h : l.reverse = l.reverse.takeWhile wh ++ l.reverse.dropWhile wh := (List.takeWhile_append_dropWhile).symm
  have h2 : l = (l.reverse.dropWhile wh).reverse ++ (l.reverse.takeWhile wh).reverse := by
    have := congrArg List.reverse h
    rw [List.reverse_reverse, List.reverse_append] at this
    exact this
  have hl : l.length = (l.reverse.dropWhile wh).reverse.length + (l.reverse.takeWhile wh).reverse.length := by
    have := congrArg List.length h2
    rw [List.length_append] at this; exact this
  unfold cut
  rw [List.length_reverse, List.length_reverse] at hl
  have e : l.length - (l.reverse.takeWhile wh).length = (l.reverse.dropWhile wh).reverse.length := by rw [List.length_reverse]; omega
  rw [e]
  generalize ha : (l.reverse.dropWhile wh).reverse = a at h2 ⊢
  generalize (l.reverse.takeWhile wh).reverse = b at h2
  rw [h2]; simp
theorem good_rev {l : List Nat} (h : Good l) : Good l.reverse := fun c hc => h c (List.mem_reverse.mp hc)
theorem good_dw {l : List Nat} {p : Nat → Bool} (h : Good l) : Good (l.dropWhile p) := fun c hc => h c (dw_mem hc)
theorem tw_all {p : Nat → Bool} {l : List Nat} (h : ∀ c ∈ l, p c = true) : l.takeWhile p = l := by
  induction l with
  | nil => rfl
  | cons c r ih => rw [List.takeWhile_cons, h c List.mem_cons_self, ih fun d hd => h d (List.mem_cons_of_mem _ hd)]; rfl
theorem tw_mem {p : Nat → Bool} {l : List Nat} : ∀ c ∈ l.takeWhile p, p c = true := by
  induction l with
  | nil => intro c h; simp at h
  | cons d r ih =>
    intro c h
    rw [List.takeWhile_cons] at h
    split at h
    · rename_i hd
      rcases List.mem_cons.mp h with rfl | h
      · exact hd
      · exact ih c h
    · simp at h
theorem drop_takeWhile (p : Nat → Bool) (l : List Nat) : l.drop (l.takeWhile p).length = l.dropWhile p := by
  induction l with
  | nil => rfl
  | cons c r ih => rw [List.takeWhile_cons, List.dropWhile_cons]; split <;> simp [ih]
theorem rstrip_good {x : Str} (h : Good (C x)) : Txt.rstrip x = S (cut (C x)) := by
  unfold Txt.rstrip
  rw [PySem.W.stripBy_eq]
  refine eq_S_of ?_
  show (Builtin.Str.strSub x 0 (x.length - ((x.cps.toList.drop 0).reverse.takeWhile Unicode.isSpace).length)).cps.toList = _
  rw [StrLaws.strSub_toList, List.drop_zero, Nat.sub_zero]
  show (C x).take (x.length - ((C x).reverse.takeWhile Unicode.isSpace).length) = _
  rw [takeWhile_good (good_rev h), ← C_length, ← cut_as_take]
theorem strip_good {x : Str} (h : Good (C x)) : Txt.strip x = S (bare (C x)) := by
  unfold Txt.strip
  rw [PySem.W.stripBy_eq]
  refine eq_S_of ?_
  show (Builtin.Str.strSub x ((C x).takeWhile Unicode.isSpace).length (x.length - (((C x).drop ((C x).takeWhile Unicode.isSpace).length).reverse.takeWhile Unicode.isSpace).length)).cps.toList = _
  rw [StrLaws.strSub_toList, takeWhile_good h]
  show ((C x).drop ((C x).takeWhile wh).length).take _ = _
  rw [drop_takeWhile, takeWhile_good (good_rev (good_dw h))]
  unfold bare
  rw [cut_as_take]
  congr 1
  have : ((C x).takeWhile wh).length + ((C x).dropWhile wh).length = x.length := by
    rw [← List.length_append, List.takeWhile_append_dropWhile, C_length]
  omega
/-- the places, by the last sign -/
theorem solid_snoc (l : List Nat) (c : Nat) : solid (l ++ [c]) = solid l ++ (if wh c then [] else [(l.length : Int)]) := by
  unfold solid
  have hr : rangeKs 0 (l ++ [c]).length = rangeKs 0 l.length ++ [(l.length : Int)] := by
    rw [List.length_append]
    simp [rangeKs, List.range_succ]
  rw [hr, List.foldl_append]
  have hc : ∀ (ks : List Int) (acc : List Int), (∀ k ∈ ks, 0 ≤ k ∧ k < l.length) → ks.foldl (solidG (l ++ [c])) acc = ks.foldl (solidG l) acc := by
    intro ks
    induction ks with
    | nil => intro acc _; rfl
    | cons k r ih =>
      intro acc h
      have hk := h k List.mem_cons_self
      have e : solidG (l ++ [c]) acc k = solidG l acc k := by
        unfold solidG
        rw [List.getD_eq_getElem?_getD, List.getD_eq_getElem?_getD, List.getElem?_append_left (by omega)]
      rw [List.foldl_cons, List.foldl_cons, e]
      exact ih _ fun d hd => h d (List.mem_cons_of_mem _ hd)
  rw [hc (rangeKs 0 l.length) [] fun k hk => by have := mem_rangeKs hk; omega]
  simp only [List.foldl_cons, List.foldl_nil]
  generalize (rangeKs 0 l.length).foldl (solidG l) [] = acc
  unfold solidG
  have e : (l ++ [c]).getD ((l.length : Int)).toNat 0 = c := by
    simp [List.getD_eq_getElem?_getD]
  rw [e]
  split <;> simp
theorem solid_nil : solid [] = [] := rfl
theorem solid_cut : ∀ l : List Nat, (solid l = [] ↔ cut l = []) ∧ (solid l ≠ [] → (solid l).getLast? = some (((cut l).length : Int) - 1) ∧ (solid l).head? = some (((l.takeWhile wh).length : Nat) : Int) ∧ (l.takeWhile wh).length < (cut l).length) := by
  refine snoc_ind ⟨by simp [solid_nil, cut_nil], fun h => (h rfl).elim⟩ ?_
  intro l c ⟨h1, h2⟩
  rw [solid_snoc, cut_snoc]
  by_cases hc : wh c = true
  · simp only [hc, if_true, List.append_nil]
    refine ⟨h1, fun h => ?_⟩
    obtain ⟨a, b, d⟩ := h2 h
    have hne : cut l ≠ [] := fun e => h (h1.mpr e)
    have htl : (l.takeWhile wh).length ≠ l.length := by have := cut_len l; omega
    have e : (l ++ [c]).takeWhile wh = l.takeWhile wh := by rw [List.takeWhile_append, if_neg htl]
    rw [e]; exact ⟨a, b, d⟩
  · simp only [hc, if_false, Bool.false_eq_true]
    refine ⟨by simp, fun _ => ?_⟩
    refine ⟨by simp, ?_, ?_⟩
    · by_cases hs : solid l = []
      · have hw := cut_nil_white (h1.mp hs)
        have e : l.takeWhile wh = l := tw_all hw
        rw [hs, List.takeWhile_append, e, if_pos rfl]
        simp [hc]
      · obtain ⟨a, b, d⟩ := h2 hs
        have htl : (l.takeWhile wh).length ≠ l.length := by have := cut_len l; omega
        have e : (l ++ [c]).takeWhile wh = l.takeWhile wh := by rw [List.takeWhile_append, if_neg htl]
        rw [e, List.head?_append, b]; rfl
    · rw [List.takeWhile_append]
      split
      · simp [hc]
      · have : (l.takeWhile wh).length ≤ l.length := (List.takeWhile_sublist wh).length_le
        simp; omega
theorem getD_last (l : List Int) (h : 0 < l.length) {k : Int} (e : l.getLast? = some k) : l.getD (-1 + (l.length : Int)).toNat 0 = k := by
  have e1 : (-1 + (l.length : Int)).toNat = l.length - 1 := by omega
  rw [e1, List.getD_eq_getElem?_getD, ← List.getLast?_eq_getElem?, e]; rfl
theorem cut_none {x : Str} (h : ¬ 0 < (solid (C x)).length) : Str.ofString "" = S (cut (C x)) := by
  have e : solid (C x) = [] := List.eq_nil_of_length_eq_zero (by omega)
  rw [((solid_cut (C x)).1).mp e]; decide +kernel
theorem bare_none {x : Str} (h : ¬ 0 < (solid (C x)).length) : Str.ofString "" = S (bare (C x)) := by
  have e : solid (C x) = [] := List.eq_nil_of_length_eq_zero (by omega)
  have hw := cut_nil_white (((solid_cut (C x)).1).mp e)
  have : bare (C x) = [] := white_cut_nil fun c hc => hw c (dw_mem hc)
  rw [this]; decide +kernel
theorem solid_facts {x : Str} (h : 0 < (solid (C x)).length) : (solid (C x)).getD (-1 + ((solid (C x)).length : Int)).toNat 0 + 1 = (cut (C x)).length ∧ (solid (C x)).getD (Int.toNat 0) 0 = (((C x).takeWhile wh).length : Nat) ∧ ((C x).takeWhile wh).length < (cut (C x)).length := by
  have hne : solid (C x) ≠ [] := fun e => by rw [e] at h; simp at h
  obtain ⟨a, b, d⟩ := (solid_cut (C x)).2 hne
  refine ⟨by rw [getD_last _ h a]; omega, ?_, d⟩
  show (solid (C x)).getD 0 0 = _
  rw [List.getD_eq_getElem?_getD, ← List.head?_eq_getElem?, b]; rfl
theorem cut_slice {x : Str} (h : 0 < (solid (C x)).length) : Txt.slice x none (some ((solid (C x)).getD (-1 + ((solid (C x)).length : Int)).toNat 0 + 1)) = S (cut (C x)) := by
  obtain ⟨a, _, _⟩ := solid_facts h
  rw [a]
  show StrLaws.sliceText x none (some _) = _
  have hl := cut_len (C x)
  rw [StrLaws.sliceText_to ⟨by omega, by show ((cut (C x)).length : Int) ≤ ((C x).length : Nat); omega⟩]
  show S (((C x).drop 0).take _) = _
  rw [List.drop_zero]
  have e : (((cut (C x)).length : Int) - 0).toNat = (cut (C x)).length := by omega
  rw [e, ← cut_take]
theorem bare_of_cut {l : List Nat} (h : (l.takeWhile wh).length < (cut l).length) : bare l = (cut l).drop (l.takeWhile wh).length := by
  have hl : l = l.takeWhile wh ++ l.dropWhile wh := (List.takeWhile_append_dropWhile).symm
  have hb : ∀ (t r : List Nat), (∀ c ∈ t, wh c = true) → cut r ≠ [] → cut (t ++ r) = t ++ cut r := by
    intro t
    induction t with
    | nil => intro r _ _; rfl
    | cons c t ih =>
      intro r ht hr
      have e := ih r (fun d hd => ht d (List.mem_cons_of_mem _ hd)) hr
      rw [List.cons_append, cut_cons, e, if_neg (by simp [hr])]; rfl
  have hw : ∀ c ∈ l.takeWhile wh, wh c = true := tw_mem
  have hne : cut (l.dropWhile wh) ≠ [] := by
    intro e
    have hw2 := cut_nil_white e
    have : cut l = [] := white_cut_nil fun c hc => by
      rw [hl] at hc
      rcases List.mem_append.mp hc with hc | hc
      · exact hw c hc
      · exact hw2 c hc
    rw [this] at h; simp at h
  have := hb _ _ hw hne
  rw [← hl] at this
  rw [this]
  unfold bare
  simp
theorem bare_slice {x : Str} (h : 0 < (solid (C x)).length) : Txt.slice x (some ((solid (C x)).getD (Int.toNat 0) 0)) (some ((solid (C x)).getD (-1 + ((solid (C x)).length : Int)).toNat 0 + 1)) = S (bare (C x)) := by
  obtain ⟨a, b, d⟩ := solid_facts h
  rw [a, b]
  show StrLaws.sliceText x (some _) (some _) = _
  have hl := cut_len (C x)
  rw [StrLaws.sliceText_nat x (Nat.le_of_lt d) (by rw [← C_length]; exact hl)]
  show S (((C x).drop _).take _) = _
  rw [bare_of_cut d]
  congr 1
  rw [← List.drop_take, ← cut_take]
end Mine

namespace Mine
theorem joinN_join : ∀ ls : List (List Nat), Txt.join (Str.ofString "\n") (ls.map S) = S (joinN ls) := by
  intro ls
  show Builtin.Str.glued (Str.ofString "\n") (ls.map S) = _
  rw [StrLaws.glued_eq_join]
  have hn : C (Str.ofString "\n") = [10] := by decide +kernel
  have key : ∀ ls : List (List Nat), C (Str.join (Str.ofString "\n") (ls.map S)) = joinN ls := by
    intro ls
    induction ls with
    | nil => rfl
    | cons a r ih =>
      cases r with
      | nil => rfl
      | cons b r =>
        have e : Str.join (Str.ofString "\n") ((a :: b :: r).map S) = S a ++ Str.ofString "\n" ++ Str.join (Str.ofString "\n") ((b :: r).map S) := rfl
        rw [e, C_append, C_append, ih, hn, C_S]; simp [joinN]
  exact eq_S_of (key ls)
theorem joinN_lines : ∀ l : List Nat, joinN (lines l) = l
  | [] => rfl
  | c :: r => by
    obtain ⟨h, t, e⟩ := lines_ne r
    have ih := joinN_lines r
    by_cases hc : c = 10
    · subst hc
      rw [lines_nl, e]
      rw [e] at ih
      show [] ++ 10 :: joinN (h :: t) = _
      rw [ih]; rfl
    · rw [lines_ch hc e]
      rw [e] at ih
      cases t with
      | nil => have ih' : h = r := ih; show c :: h = _; rw [ih']
      | cons b t => have ih' : h ++ 10 :: joinN (b :: t) = r := ih; show (c :: h) ++ 10 :: joinN (b :: t) = _; rw [List.cons_append, ih']
theorem lines_free : ∀ (l a : List Nat), a ∈ lines l → 10 ∉ a
  | [], a, h => by simp only [lines, List.mem_singleton] at h; subst h; simp
  | c :: r, a, h => by
    obtain ⟨b, t, e⟩ := lines_ne r
    have ih := lines_free r
    by_cases hc : c = 10
    · subst hc
      rw [lines_nl] at h
      rcases List.mem_cons.mp h with rfl | h
      · simp
      · exact ih a h
    · rw [lines_ch hc e] at h
      rcases List.mem_cons.mp h with rfl | h
      · intro hm
        rcases List.mem_cons.mp hm with hm | hm
        · exact hc hm.symm
        · exact ih b (by rw [e]; exact List.mem_cons_self) hm
      · exact ih a (by rw [e]; exact List.mem_cons_of_mem _ h)
theorem lines_mem : ∀ (l a : List Nat), a ∈ lines l → ∀ c ∈ a, c ∈ l
  | [], a, h, c, hc => by simp only [lines, List.mem_singleton] at h; subst h; simp at hc
  | d :: r, a, h, c, hc => by
    obtain ⟨b, t, e⟩ := lines_ne r
    have ih := lines_mem r
    by_cases hd : d = 10
    · subst hd
      rw [lines_nl] at h
      rcases List.mem_cons.mp h with rfl | h
      · simp at hc
      · exact List.mem_cons_of_mem _ (ih a h c hc)
    · rw [lines_ch hd e] at h
      rcases List.mem_cons.mp h with rfl | h
      · rcases List.mem_cons.mp hc with rfl | hc
        · exact List.mem_cons_self
        · exact List.mem_cons_of_mem _ (ih b (by rw [e]; exact List.mem_cons_self) c hc)
      · exact List.mem_cons_of_mem _ (ih a (by rw [e]; exact List.mem_cons_of_mem _ h) c hc)
theorem lines_good {l : List Nat} (h : Good l) : ∀ a ∈ lines l, Good a := fun a ha c hc => h c (lines_mem l a ha c hc)
theorem lines_one : ∀ {a : List Nat}, 10 ∉ a → lines a = [a]
  | [], _ => rfl
  | c :: r, h => lines_ch (fun e => h (by rw [e]; exact List.mem_cons_self)) (lines_one fun hm => h (List.mem_cons_of_mem _ hm))
theorem lines_app : ∀ {a : List Nat} (r : List Nat), 10 ∉ a → lines (a ++ 10 :: r) = a :: lines r
  | [], r, _ => lines_nl r
  | c :: a, r, h => by
    rw [List.cons_append]
    exact lines_ch (fun e => h (by rw [e]; exact List.mem_cons_self)) (lines_app r fun hm => h (List.mem_cons_of_mem _ hm))
theorem lines_joinN : ∀ {ls : List (List Nat)}, ls ≠ [] → (∀ a ∈ ls, 10 ∉ a) → lines (joinN ls) = ls
  | [], h, _ => (h rfl).elim
  | [a], _, h => lines_one (h a List.mem_cons_self)
  | a :: b :: r, _, h => by
    show lines (a ++ 10 :: joinN (b :: r)) = _
    rw [lines_app _ (h a List.mem_cons_self), lines_joinN (by simp) fun d hd => h d (List.mem_cons_of_mem _ hd)]
theorem nl_eq : Str.ofString "\n" = ⟨#[10]⟩ := by decide +kernel
theorem split_ne (x y : Str) : Txt.split x y ≠ [] := by
  unfold Txt.split
  split
  · simp
  · split
    · simp
    · rw [StrLaws.partsBetween_eq]
      obtain ⟨p, r, e⟩ := StrLaws.partsFrom_ne x y.length 0 (Builtin.Str.occurrences x y 0 x.length (x.length + 1))
      rw [e]; simp
theorem split_lines (l : List Nat) : Txt.split (S l) (Str.ofString "\n") = (lines l).map S := by
  have h1 := StrLaws.join_split (S l) (Str.ofString "\n")
  have h2 : ∀ p ∈ Txt.split (S l) (Str.ofString "\n"), 10 ∉ C p := by rw [nl_eq]; exact StrLaws.split_free (S l) 10
  have h3 := split_ne (S l) (Str.ofString "\n")
  generalize Txt.split (S l) (Str.ofString "\n") = P at h1 h2 h3
  have hP : (P.map C).map S = P := by rw [List.map_map]; simp [Function.comp_def, S_C]
  have hj : joinN (P.map C) = l := by
    have := joinN_join (P.map C)
    rw [hP] at this
    have h4 : Txt.join (Str.ofString "\n") P = Str.join (Str.ofString "\n") P := StrLaws.glued_eq_join _ _
    rw [h4, h1] at this
    exact (S_inj this).symm
  have : lines l = P.map C := by
    rw [← hj]
    exact lines_joinN (by simpa using h3) (by intro a ha; obtain ⟨p, hp, rfl⟩ := List.mem_map.mp ha; exact h2 p hp)
  rw [this, hP]
/-- partition at the first line end -/
theorem at_one (x : Str) (c i : Nat) : StrLaws.At x ⟨#[c]⟩ x.length i ↔ (C x)[i]? = some c := StrLaws.subAt_one x c i
theorem part_spec (b : List Nat) : (10 ∉ b ∧ Txt.partition (S b) (Str.ofString "\n") = (S b, Str.empty, Str.empty)) ∨
    ∃ h t, b = h ++ 10 :: t ∧ 10 ∉ h ∧ Txt.partition (S b) (Str.ofString "\n") = (S h, Str.ofString "\n", S t) := by
  rw [nl_eq]
  unfold Txt.partition
  rcases StrLaws.occ_head (S b) ⟨#[10]⟩ 1 (Nat.le_refl 1) with ⟨h0, hn⟩ | ⟨i, r, h0, hi, hn⟩
  · rw [h0]
    refine .inl ⟨fun hm => ?_, rfl⟩
    obtain ⟨i, hi, e⟩ := List.mem_iff_getElem.mp hm
    exact hn i ((at_one (S b) 10 i).mpr (by rw [C_S, List.getElem?_eq_getElem hi, e]))
  · rw [h0]
    have hm := (at_one (S b) 10 i).mp hi
    rw [C_S] at hm
    obtain ⟨hlt, e⟩ := List.getElem?_eq_some_iff.mp hm
    have hb : b = b.take i ++ 10 :: b.drop (i + 1) := by
      rw [← e, List.getElem_cons_drop, List.take_append_drop]
    refine .inr ⟨b.take i, b.drop (i + 1), hb, ?_, ?_⟩
    · intro hm
      obtain ⟨k, hk, ek⟩ := List.mem_iff_getElem.mp hm
      have hk' : k < i := by rw [List.length_take] at hk; omega
      refine hn k hk' ((at_one (S b) 10 k).mpr ?_)
      rw [C_S, List.getElem?_eq_getElem (by omega)]
      rw [List.getElem_take] at ek
      rw [ek]
    · have e1 : Builtin.Str.strSub (S b) 0 i = S (b.take i) := by
        refine eq_S_of ?_
        show (Builtin.Str.strSub (S b) 0 i).cps.toList = _
        rw [StrLaws.strSub_toList]
        show ((C (S b)).drop 0).take (i - 0) = _
        rw [C_S, List.drop_zero, Nat.sub_zero]
      have e2 : Builtin.Str.strSub (S b) (i + (⟨#[10]⟩ : Str).length) (S b).length = S (b.drop (i + 1)) := by
        refine eq_S_of ?_
        show (Builtin.Str.strSub (S b) (i + 1) (S b).length).cps.toList = _
        rw [StrLaws.strSub_toList]
        show ((C (S b)).drop (i + 1)).take ((S b).length - (i + 1)) = _
        rw [C_S, S_length]
        exact List.take_of_length_le (by rw [List.length_drop]; exact Nat.le_refl _)
      show (Builtin.Str.strSub (S b) 0 i, _, Builtin.Str.strSub (S b) (i + (⟨#[10]⟩ : Str).length) (S b).length) = _
      rw [e1, e2]
theorem empty_eq : Str.empty = Str.ofString "" := by decide +kernel
theorem part_lines {b h : List Nat} {t : List (List Nat)} (e : lines b = h :: t) :
    Txt.partition (S b) (Str.ofString "\n") = (S h, (if t = [] then Str.ofString "" else Str.ofString "\n"), S (joinN t)) := by
  rcases part_spec b with ⟨hf, hp⟩ | ⟨h', t', hb, hf, hp⟩
  · rw [lines_one hf] at e
    cases e
    rw [hp, if_pos rfl, empty_eq]
    have : S (joinN []) = Str.ofString "" := by decide +kernel
    rw [this]
  · rw [hb, lines_app _ hf] at e
    cases e
    rw [hp, if_neg (by obtain ⟨a, b, q⟩ := lines_ne t'; rw [q]; simp), joinN_lines]
theorem S_nil : S [] = Str.ofString "" := by decide +kernel
theorem nl_ne : ((Str.ofString "\n") == Str.ofString "") = false := by decide +kernel
theorem pair_a {x : Str} (h : ((Txt.partition (S (bare (C x))) (Str.ofString "\n")).2.1 == Str.ofString "") = true) : S (pair (C x)).1 = S (bare (C x)) ∧ S (pair (C x)).2 = Str.ofString "" := by
  obtain ⟨p, t, e⟩ := lines_ne (bare (C x))
  rw [part_lines e] at h
  cases t with
  | nil =>
    unfold pair pairOf
    rw [e]
    exact ⟨rfl, S_nil⟩
  | cons q r => dsimp only at h; rw [if_neg (by simp), nl_ne] at h; cases h
theorem lines_tail {b p : List Nat} {t : List (List Nat)} (e : lines b = p :: t) (ht : t ≠ []) : lines (joinN t) = t :=
  lines_joinN ht fun a ha => lines_free b a (by rw [e]; exact List.mem_cons_of_mem _ ha)
theorem pair_two {x : Str} (h : ((Txt.partition (S (bare (C x))) (Str.ofString "\n")).2.1 == Str.ofString "") = false) : ∃ p q r, lines (bare (C x)) = p :: q :: r ∧ (Txt.partition (S (bare (C x))) (Str.ofString "\n")).1 = S p ∧ (Txt.partition (Txt.partition (S (bare (C x))) (Str.ofString "\n")).2.2 (Str.ofString "\n")).1 = S q ∧ (Txt.partition (Txt.partition (S (bare (C x))) (Str.ofString "\n")).2.2 (Str.ofString "\n")).2.2 = S (joinN r) := by
  obtain ⟨p, t, e⟩ := lines_ne (bare (C x))
  rw [part_lines e] at h ⊢
  cases t with
  | nil => dsimp only at h; rw [if_pos rfl] at h; have : ((Str.ofString "") == Str.ofString "") = true := by decide +kernel
           rw [this] at h; cases h
  | cons q r =>
    have e2 := lines_tail e (by simp)
    dsimp only
    rw [part_lines e2]
    exact ⟨p, q, r, e, rfl, rfl, rfl⟩
theorem pair_b {x : Str} (h : ((Txt.partition (S (bare (C x))) (Str.ofString "\n")).2.1 == Str.ofString "") = false) (h2 : (((S (cut (C (Txt.partition (Txt.partition (S (bare (C x))) (Str.ofString "\n")).2.2 (Str.ofString "\n")).1))).length : Nat) : Int) ≠ 0) :
  S (pair (C x)).1 = Str.ofString "" ∧ S (pair (C x)).2 = S (bare (C x)) := by
  obtain ⟨p, q, r, e, e1, e2, e3⟩ := pair_two h
  rw [e2, C_S, S_length] at h2
  unfold pair pairOf
  rw [e]
  dsimp only
  rw [if_neg (fun e => h2 (by rw [e]; rfl))]
  exact ⟨S_nil, rfl⟩
theorem pair_c {x : Str} (h : ((Txt.partition (S (bare (C x))) (Str.ofString "\n")).2.1 == Str.ofString "") = false) (h2 : (((S (cut (C (Txt.partition (Txt.partition (S (bare (C x))) (Str.ofString "\n")).2.2 (Str.ofString "\n")).1))).length : Nat) : Int) = 0) :
  S (pair (C x)).1 = (Txt.partition (S (bare (C x))) (Str.ofString "\n")).1 ∧ S (pair (C x)).2 = (Txt.partition (Txt.partition (S (bare (C x))) (Str.ofString "\n")).2.2 (Str.ofString "\n")).2.2 := by
  obtain ⟨p, q, r, e, e1, e2, e3⟩ := pair_two h
  rw [e2, C_S, S_length] at h2
  rw [e1, e3]
  unfold pair pairOf
  rw [e]
  dsimp only
  rw [if_pos (List.eq_nil_of_length_eq_zero (by omega))]
  exact ⟨rfl, rfl⟩
end Mine

namespace Mine
theorem joinN_cons (a : List Nat) : ∀ t : List (List Nat), joinN (a :: t) = a ++ (if t = [] then [] else 10 :: joinN t)
  | [] => by simp [joinN]
  | b :: r => by simp [joinN]
theorem joinN_mem : ∀ {ls : List (List Nat)} {c : Nat}, c ∈ joinN ls → c = 10 ∨ ∃ a ∈ ls, c ∈ a
  | [], c, h => by simp [joinN] at h
  | a :: t, c, h => by
    rw [joinN_cons] at h
    rcases List.mem_append.mp h with h | h
    · exact .inr ⟨a, List.mem_cons_self, h⟩
    · split at h
      · simp at h
      · rcases List.mem_cons.mp h with h | h
        · exact .inl h
        · rcases joinN_mem h with h | ⟨b, hb, h⟩
          · exact .inl h
          · exact .inr ⟨b, List.mem_cons_of_mem _ hb, h⟩
theorem good_nl {l : List Nat} (h : Good l) : Good (10 :: l) := fun c hc => by
  rcases List.mem_cons.mp hc with rfl | hc
  · exact ⟨by decide +kernel, by decide⟩
  · exact h c hc
theorem joinN_good {ls : List (List Nat)} (h : ∀ a ∈ ls, Good a) : Good (joinN ls) := by
  intro c hc
  rcases joinN_mem hc with rfl | ⟨a, ha, hc⟩
  · exact ⟨by decide +kernel, by decide⟩
  · exact h a ha c hc
theorem rows_good {l : List Nat} (h : Good l) : ∀ a ∈ rows l, Good a := by
  intro a ha
  obtain ⟨b, hb, rfl⟩ := List.mem_map.mp ha
  exact cut_good (lines_good h b hb)
theorem cm_good {r : List Nat} (h : Good r) : Good (cm r) := by
  have h1 : Unicode.isSpace 35 = wh 35 ∧ 35 < 20000 := ⟨by decide +kernel, by decide⟩
  have h2 : Unicode.isSpace 32 = wh 32 ∧ 32 < 20000 := ⟨by decide +kernel, by decide⟩
  unfold cm
  split
  · intro c hc; rw [List.mem_singleton.mp hc]; exact h1
  · intro c hc
    rcases List.mem_cons.mp hc with rfl | hc
    · exact h1
    · rcases List.mem_cons.mp hc with rfl | hc
      · exact h2
      · exact h c hc
theorem comment_good {l : List Nat} (h : Good l) : Good (comment l) := by
  refine joinN_good fun a ha => ?_
  obtain ⟨r, hr, rfl⟩ := List.mem_map.mp ha
  exact cm_good (rows_good h r hr)
theorem joinN_map_len {g : List Nat → List Nat} {k : Nat} (h : ∀ a, (g a).length ≤ a.length + k) : ∀ ls : List (List Nat), (joinN (ls.map g)).length ≤ (joinN ls).length + k * ls.length
  | [] => by simp [joinN]
  | a :: t => by
    have ih := joinN_map_len h t
    rw [List.map_cons, joinN_cons, joinN_cons, List.length_append, List.length_append, List.length_cons, Nat.mul_add, Nat.mul_one]
    have := h a
    by_cases ht : t = []
    · subst ht; simp; omega
    · rw [if_neg ht, if_neg (by simpa using ht), List.length_cons, List.length_cons]; omega
theorem cm_cut_len (a : List Nat) : (cm (cut a)).length ≤ a.length + 2 := by
  have := cut_len a
  unfold cm; split <;> simp <;> omega
theorem comment_len {x : Str} {n : Nat} (h : x.length ≤ n) : (S (comment (C x))).length ≤ 3 * n + 2 := by
  rw [S_length]
  unfold comment rows
  rw [List.map_map]
  have h1 := joinN_map_len (g := cm ∘ cut) (k := 2) cm_cut_len (lines (C x))
  rw [joinN_lines, C_length] at h1
  have h2 : (lines (C x)).length ≤ x.length + 1 := by
    have key : ∀ l : List Nat, (lines l).length ≤ l.length + 1 := by
      intro l
      induction l with
      | nil => exact Nat.le_refl _
      | cons c r ih =>
        obtain ⟨a, t, e⟩ := lines_ne r
        by_cases hc : c = 10
        · subst hc; rw [lines_nl]; simpa using ih
        · rw [lines_ch hc e]; rw [e] at ih; simp only [List.length_cons] at *; omega
    have := key (C x); rw [C_length] at this; exact this
  omega
theorem back_len' (l : List Nat) : (joinN (rows l)).length ≤ l.length := by
  unfold rows
  have h1 := joinN_map_len (g := cut) (k := 0) (fun a => by have := cut_len a; omega) (lines l)
  rw [joinN_lines] at h1; omega
/-- the text, each row cut -/
def trim (l : List Nat) : List Nat := joinN (rows l)
theorem trim_nil : trim [] = [] := rfl
theorem trim_nl (l : List Nat) : trim (10 :: l) = 10 :: trim l := by
  unfold trim rows
  obtain ⟨h, t, e⟩ := lines_ne l
  rw [lines_nl, e]
  rfl
def Low (l : List Nat) : Prop := l = [] ∨ l.head? = some 10
theorem low_app {a t : List Nat} (ha : 10 ∉ a) (ht : t = [] ∨ t.head? = some 10) : Low (a ++ t) ↔ a = [] := by
  constructor
  · intro h
    cases a with
    | nil => rfl
    | cons c r =>
      rcases h with h | h
      · simp at h
      · simp at h; exact (ha (by rw [h]; exact List.mem_cons_self)).elim
  · intro h; subst h; exact ht
theorem trim_form (l : List Nat) : ∃ h t, lines l = h :: t ∧ trim l = cut h ++ (if t = [] then [] else 10 :: joinN (t.map cut)) := by
  obtain ⟨h, t, e⟩ := lines_ne l
  refine ⟨h, t, e, ?_⟩
  unfold trim rows
  rw [e, List.map_cons, joinN_cons]
  by_cases ht : t = []
  · subst ht; rfl
  · rw [if_neg ht, if_neg (by simpa using ht)]
theorem trim_ch (c : Nat) (l : List Nat) (hc : c ≠ 10) : (wh c = true ∧ Low (trim l) → trim (c :: l) = trim l) ∧ (¬ (wh c = true ∧ Low (trim l)) → trim (c :: l) = c :: trim l) := by
  obtain ⟨h, t, e, ef⟩ := trim_form l
  have hfree : 10 ∉ cut h := fun hm => lines_free l h (by rw [e]; exact List.mem_cons_self) (cut_mem hm)
  have hlow : Low (trim l) ↔ cut h = [] := by
    rw [ef]
    refine low_app hfree ?_
    by_cases ht : t = []
    · left; simp [ht]
    · right; simp [ht]
  have e2 : trim (c :: l) = cut (c :: h) ++ (if t = [] then [] else 10 :: joinN (t.map cut)) := by
    unfold trim rows
    rw [lines_ch hc e, List.map_cons, joinN_cons]
    by_cases ht : t = []
    · subst ht; rfl
    · rw [if_neg ht, if_neg (by simpa using ht)]
  rw [hlow, e2, ef, cut_cons]
  constructor
  · rintro ⟨h1, h2⟩
    rw [if_pos h2, if_pos h1, h2]
  · intro hn
    by_cases h2 : cut h = []
    · have h1 : ¬ wh c = true := fun h1 => hn ⟨h1, h2⟩
      rw [if_pos h2, if_neg h1, h2]; rfl
    · rw [if_neg h2]; rfl
theorem trim_cons (c : Nat) (l : List Nat) : (c ≠ 10 ∧ wh c = true ∧ Low (trim l) ∧ trim (c :: l) = trim l) ∨ (¬ (c ≠ 10 ∧ wh c = true ∧ Low (trim l)) ∧ trim (c :: l) = c :: trim l) := by
  by_cases hc : c = 10
  · subst hc; exact .inr ⟨fun h => h.1 rfl, trim_nl l⟩
  · obtain ⟨a, b⟩ := trim_ch c l hc
    by_cases hw : wh c = true ∧ Low (trim l)
    · exact .inl ⟨hc, hw.1, hw.2, a hw⟩
    · exact .inr ⟨fun h => hw h.2, b hw⟩
theorem trim_mem : ∀ {l : List Nat} {c : Nat}, c ∈ trim l → c ∈ l
  | [], c, h => by simp [trim_nil] at h
  | d :: r, c, h => by
    rcases trim_cons d r with ⟨_, _, _, e⟩ | ⟨_, e⟩
    · rw [e] at h; exact List.mem_cons_of_mem _ (trim_mem h)
    · rw [e] at h
      rcases List.mem_cons.mp h with rfl | h
      · exact List.mem_cons_self
      · exact List.mem_cons_of_mem _ (trim_mem h)
theorem trim_keep : ∀ {l : List Nat} {c : Nat}, c ∈ l → wh c = false → c ∈ trim l
  | d :: r, c, h, hw => by
    rcases trim_cons d r with ⟨_, h2, _, e⟩ | ⟨_, e⟩
    · rw [e]
      rcases List.mem_cons.mp h with rfl | h
      · rw [hw] at h2; cases h2
      · exact trim_keep h hw
    · rw [e]
      rcases List.mem_cons.mp h with rfl | h
      · exact List.mem_cons_self
      · exact List.mem_cons_of_mem _ (trim_keep h hw)
theorem trim_dw : ∀ l : List Nat, (trim l).dropWhile wh = trim (l.dropWhile wh)
  | [] => rfl
  | c :: r => by
    have ih := trim_dw r
    by_cases hc : wh c = true
    · rw [List.dropWhile_cons, if_pos hc, ← ih]
      rcases trim_cons c r with ⟨_, _, _, e⟩ | ⟨_, e⟩
      · rw [e]
      · rw [e, List.dropWhile_cons, if_pos hc]
    · rw [List.dropWhile_cons, if_neg hc]
      rcases trim_cons c r with ⟨_, h2, _, _⟩ | ⟨_, e⟩
      · exact (hc h2).elim
      · rw [e, List.dropWhile_cons, if_neg hc]
theorem trim_white {l : List Nat} (h : cut l = []) : cut (trim l) = [] := white_cut_nil fun c hc => cut_nil_white h c (trim_mem hc)
theorem trim_nonwhite {l : List Nat} (h : cut l ≠ []) : cut (trim l) ≠ [] := by
  intro e
  have hw := cut_nil_white e
  apply h
  refine white_cut_nil fun c hc => ?_
  cases hx : wh c with
  | true => rfl
  | false => have := hw c (trim_keep hc hx); rw [hx] at this; cases this
theorem low_cut {l : List Nat} (h : cut l ≠ []) : Low (cut l) ↔ Low l := by
  obtain ⟨t, e, _⟩ := cut_pre l
  cases hc : cut l with
  | nil => exact (h hc).elim
  | cons c r =>
    rw [hc] at e
    constructor
    · intro q; right; rw [e]; rcases q with q | q
      · cases q
      · simpa using q
    · intro q; right
      rcases q with q | q
      · rw [q] at e; cases e
      · rw [e] at q; simpa using q
theorem trim_cut : ∀ l : List Nat, cut (trim l) = trim (cut l)
  | [] => rfl
  | c :: r => by
    have ih := trim_cut r
    by_cases hr : cut r = []
    · have ht := trim_white hr
      rw [cut_cons c r, if_pos hr]
      by_cases hc : wh c = true
      · rw [if_pos hc, trim_nil]
        rcases trim_cons c r with ⟨_, _, _, e⟩ | ⟨_, e⟩
        · rw [e]; exact ht
        · rw [e, cut_cons, if_pos ht, if_pos hc]
      · rw [if_neg hc]
        have e1 : trim [c] = [c] := by
          rcases trim_cons c [] with ⟨_, h2, _, _⟩ | ⟨_, e⟩
          · exact (hc h2).elim
          · rw [e, trim_nil]
        rw [e1]
        rcases trim_cons c r with ⟨_, h2, _, _⟩ | ⟨_, e⟩
        · exact (hc h2).elim
        · rw [e, cut_cons, if_pos ht, if_neg hc]
    · have ht := trim_nonwhite hr
      rw [cut_cons c r, if_neg hr]
      have hlow : Low (trim (cut r)) ↔ Low (trim r) := by rw [← ih]; exact low_cut ht
      rcases trim_cons c r with ⟨h1, h2, h3, e⟩ | ⟨hn, e⟩
      · rcases trim_cons c (cut r) with ⟨_, _, _, e'⟩ | ⟨hn', _⟩
        · rw [e, e']; exact ih
        · exact (hn' ⟨h1, h2, hlow.mpr h3⟩).elim
      · rcases trim_cons c (cut r) with ⟨h1, h2, h3, _⟩ | ⟨_, e'⟩
        · exact (hn ⟨h1, h2, hlow.mp h3⟩).elim
        · rw [e, e', cut_cons, if_neg ht, ih]
theorem bare_back (l : List Nat) : bare (10 :: joinN (rows l)) = trim (bare l) := by
  unfold bare
  rw [List.dropWhile_cons, if_pos (by decide)]
  show cut ((trim l).dropWhile wh) = _
  rw [trim_dw, trim_cut]
theorem rows_ne' (l : List Nat) : rows l ≠ [] := by obtain ⟨h, t, e⟩ := lines_ne l; unfold rows; rw [e]; simp
theorem rows_free' (l : List Nat) : ∀ r ∈ rows l, 10 ∉ r := by
  intro r hr
  obtain ⟨a, ha, rfl⟩ := List.mem_map.mp hr
  exact fun hm => lines_free l a ha (cut_mem hm)
theorem lines_trim (b : List Nat) : lines (trim b) = rows b := lines_joinN (rows_ne' b) (rows_free' b)
theorem rows_joinN {b p : List Nat} {t : List (List Nat)} (e : lines b = p :: t) : joinN (rows (joinN t)) = joinN (t.map cut) := by
  by_cases ht : t = []
  · subst ht; rfl
  · unfold rows; rw [lines_tail e ht]
theorem pair_back (l : List Nat) : pair (10 :: joinN (rows l)) = (cut (pair l).1, joinN (rows (pair l).2)) := by
  unfold pair
  rw [bare_back]
  generalize bare l = b
  obtain ⟨p, t, e⟩ := lines_ne b
  have er : lines (trim b) = cut p :: t.map cut := by rw [lines_trim]; unfold rows; rw [e]; rfl
  have hb := joinN_lines b
  cases t with
  | nil =>
    have h1 : pairOf b = (b, []) := by unfold pairOf; rw [e]
    have h2 : pairOf (trim b) = (trim b, []) := by unfold pairOf; rw [er]; rfl
    rw [h1, h2]
    rw [e] at hb
    have hp : p = b := hb
    subst hp
    have : trim p = cut p := by unfold trim rows; rw [e]; rfl
    rw [this]; rfl
  | cons q r =>
    have h1 : pairOf b = if cut q = [] then (p, joinN r) else ([], b) := by unfold pairOf; rw [e]
    have h2 : pairOf (trim b) = if cut (cut q) = [] then (cut p, joinN (r.map cut)) else ([], trim b) := by unfold pairOf; rw [er]; rfl
    rw [h1, h2, cut_cut]
    by_cases hq : cut q = []
    · rw [if_pos hq, if_pos hq]
      have e2 : lines (joinN (q :: r)) = q :: r := lines_tail e (by simp)
      rw [rows_joinN e2]
    · rw [if_neg hq, if_neg hq]; rfl
theorem cm_cut (r : List Nat) (h : cut r = r) : cut (cm r) = cm r := by
  unfold cm
  split
  · rfl
  · rename_i hr
    rw [cut_cons, cut_cons, h, if_neg hr, if_neg (by simp)]
theorem comment_rows (l : List Nat) : joinN (rows (comment l)) = comment l := by
  unfold comment
  have e : lines (joinN ((rows l).map cm)) = (rows l).map cm := lines_joinN (by simpa using rows_ne' l) (by
    intro a ha
    obtain ⟨r, hr, rfl⟩ := List.mem_map.mp ha
    have := rows_free' l r hr
    unfold cm
    split
    · decide
    · intro hm; simp at hm; exact this hm)
  have e2 : rows (joinN ((rows l).map cm)) = (rows l).map cm := by
    show (lines (joinN ((rows l).map cm))).map cut = _
    rw [e, List.map_map]
    refine List.map_congr_left fun r hr => ?_
    obtain ⟨a, ha, rfl⟩ := List.mem_map.mp hr
    exact cm_cut _ (cut_cut a)
  rw [e2]
/-- the pair lies in the text -/
theorem pairOf_in (b : List Nat) : ((pairOf b).1.length ≤ b.length ∧ (pairOf b).2.length ≤ b.length) ∧ (∀ c, c ∈ (pairOf b).1 → c ∈ b) ∧ (∀ c, c ∈ (pairOf b).2 → c ∈ b) := by
  obtain ⟨p, t, e⟩ := lines_ne b
  have hb := joinN_lines b
  rw [e] at hb
  cases t with
  | nil =>
    have h1 : pairOf b = (b, []) := by unfold pairOf; rw [e]
    rw [h1]
    exact ⟨⟨Nat.le_refl _, Nat.zero_le _⟩, fun c h => h, fun c h => by simp at h⟩
  | cons q r =>
    have h1 : pairOf b = if cut q = [] then (p, joinN r) else ([], b) := by unfold pairOf; rw [e]
    rw [h1]
    have hb2 : b = p ++ 10 :: (q ++ (if r = [] then [] else 10 :: joinN r)) := by
      rw [← hb]; show p ++ 10 :: joinN (q :: r) = _; rw [joinN_cons]
    have hj : ∀ c, c ∈ joinN r → c ∈ b := by
      intro c hc
      have : r ≠ [] := fun e => by rw [e] at hc; simp [joinN] at hc
      rw [hb2, if_neg this]; simp [hc]
    have hjl : (joinN r).length ≤ b.length := by
      by_cases hr : r = []
      · rw [hr]; simp [joinN]
      · rw [hb2, if_neg hr]; simp; omega
    split
    · exact ⟨⟨by dsimp only; rw [hb2]; simp, hjl⟩, fun c h => by dsimp only at h; rw [hb2]; simp [h], hj⟩
    · exact ⟨⟨Nat.zero_le _, Nat.le_refl _⟩, fun c h => by simp at h, fun c h => h⟩
theorem bare_mem {l : List Nat} {c : Nat} (h : c ∈ bare l) : c ∈ l := dw_mem (cut_mem h)
theorem pair_len1 {x : Str} {n : Nat} (h : x.length ≤ n) : (S (pair (C x)).1).length ≤ n := by
  have h1 := (pairOf_in (bare (C x))).1.1; have h2 := bare_len (C x); rw [C_length] at h2
  rw [S_length]; unfold pair; omega
theorem pair_len2 {x : Str} {n : Nat} (h : x.length ≤ n) : (S (pair (C x)).2).length ≤ n := by
  have h1 := (pairOf_in (bare (C x))).1.2; have h2 := bare_len (C x); rw [C_length] at h2
  rw [S_length]; unfold pair; omega
theorem pair_good1 {l : List Nat} (h : Good l) : Good (pair l).1 := fun c hc => h c (bare_mem ((pairOf_in (bare l)).2.1 c hc))
theorem pair_good2 {l : List Nat} (h : Good l) : Good (pair l).2 := fun c hc => h c (bare_mem ((pairOf_in (bare l)).2.2 c hc))
theorem nameGo_nl : ∀ (p t h : List Nat), nameGo h (p ++ 10 :: t) = nameGo h p
  | [], t, h => by simp [nameGo]
  | c :: p, t, h => by
    rw [List.cons_append, nameGo, nameGo]
    split
    · rfl
    · exact nameGo_nl p t _
theorem bare_head {l r : List Nat} {c : Nat} (h : bare l = c :: r) : wh c = false := by
  unfold bare at h
  obtain ⟨t, e, _⟩ := cut_pre (l.dropWhile wh)
  rw [h] at e
  have key : ∀ l : List Nat, ∀ d q, l.dropWhile wh = d :: q → wh d = false := by
    intro l
    induction l with
    | nil => intro d q h; simp at h
    | cons a r ih =>
      intro d q h
      rw [List.dropWhile_cons] at h
      split at h
      · exact ih d q h
      · rename_i ha
        cases h
        simpa using ha
  exact key l c _ e
theorem name_pair (l : List Nat) : ((pair l).1 ≠ [] → name (pair l).1 = name (bare l)) ∧ ((pair l).1 = [] → name (pair l).2 = name (bare l)) := by
  unfold pair
  have hh := @bare_head l
  generalize bare l = b at hh
  obtain ⟨p, t, e⟩ := lines_ne b
  have hb := joinN_lines b
  rw [e] at hb
  cases t with
  | nil =>
    have h1 : pairOf b = (b, []) := by unfold pairOf; rw [e]
    rw [h1]
    exact ⟨fun _ => rfl, fun h => by dsimp only at h ⊢; rw [h]⟩
  | cons q r =>
    have h1 : pairOf b = if cut q = [] then (p, joinN r) else ([], b) := by unfold pairOf; rw [e]
    have hb2 : b = p ++ 10 :: joinN (q :: r) := hb.symm
    rw [h1]
    split
    · refine ⟨fun _ => ?_, fun h => ?_⟩
      · dsimp only; unfold name; rw [hb2, nameGo_nl]
      · exfalso
        dsimp only at h
        rw [h] at hb2
        have := hh hb2
        revert this; decide
    · exact ⟨fun h => (h rfl).elim, fun _ => rfl⟩
end Mine

namespace Mine
theorem strs_at {vs : List Value} {xs : List Str} (h : StrsAre vs xs) : ∀ (i : Nat) (v : Value), vs[i]? = some v → ∃ y t, v = .str y t ∧ xs[i]? = some y := by
  induction h with
  | nil => intro i v e; simp at e
  | cons y t r ih =>
    intro i v e
    cases i with
    | zero => simp only [List.getElem?_cons_zero, Option.some.injEq] at e; exact ⟨y, t, e.symm, rfl⟩
    | succ i => simp only [List.getElem?_cons_succ] at e; obtain ⟨y', t', a, b⟩ := ih i v e; exact ⟨y', t', a, by simpa using b⟩
theorem strs_len {vs : List Value} {xs : List Str} (h : StrsAre vs xs) : vs.length = xs.length := by
  induction h with
  | nil => rfl
  | cons y t r ih => simp [ih]
/-- an element of a comprehension over texts -/
def MsEl (news : List (Addr × Obj)) (r : Str) (y : Value) (news' : List (Addr × Obj)) : Prop := news' = news ∧ ∃ t : Tok, y = .str r t
section
variable {prog : Program} {w : World} {A : Around} {h₀ : Heap} {L : Addr} {m : Str → Option Value} {env : Env} {elt : Expr} {x : Str} {scope : Scope} {cl : List (Str × Addr)} {s : Shared} {S : List (Addr × Obj) → Prop} {Fin : List Value → List (Addr × Obj) → Prop} {news : List (Addr × Obj)}
theorem ms_rest {vs : List Value} {xs : List Str} (g : Str → Str) (hi : StrsAre vs xs)
    (turn : ∀ z t I oI C oC D m₂ ys h tk (E' : Value → Shared → Prop), z ∈ xs → LCg.NsObj oC m₂ → m₂ x = some (.str z t) → Fr h₀ L h m → News h₀ L h ((I, oI) :: (C, oC) :: (D, LCg.lst ys) :: news) → LCg.Off3 I C D news → ((@Ne Nat I C) ∧ (@Ne Nat I D) ∧ (@Ne Nat C D)) → KPfMark →
      wpAny (model prog w) A (eval elt (compEnvC scope cl C env)) (LCg.CompEnd h₀ L m { s with heap := h, toks := tk } I oI C oC D (LCg.lst ys) S (fun y news' => MsEl news (g z) y news')) E' { s with heap := h, toks := tk })
    (fin : ∀ ys, StrsAre ys (xs.map g) → Fin ys news) : LCg.CompRest prog w A h₀ L m env elt x scope cl s S (fun i v => vs.toArray[i]? = some v) Fin vs.toArray.size 0 [] news := by
  have key : ∀ (j i : Nat) (ys : List Value), i + j = vs.toArray.size → StrsAre ys ((xs.take i).map g) → LCg.CompRest prog w A h₀ L m env elt x scope cl s S (fun i v => vs.toArray[i]? = some v) Fin j i ys news := by
    intro j
    induction j with
    | zero =>
      intro i ys hi' hy
      have e : i = xs.length := by rw [← strs_len hi]; simpa using hi'
      subst e
      rw [List.take_length] at hy
      exact LCg.CompRest.zero (fin ys hy)
    | succ j ih =>
      intro i ys hi' hy
      refine LCg.CompRest.succ ?_
      intro v I oI C oC D m₂ h tk E' hv hC hx F N off ne
      obtain ⟨z, t, hv', hk⟩ := strs_at hi i v (by simpa using hv)
      rw [hv'] at hx
      refine wpAny_mono (turn z t I oI C oC D m₂ ys h tk E' (List.mem_of_getElem? hk) hC hx F N off ne True.intro) (fun y s₂ hq => ?_) fun _ _ e => e
      obtain ⟨h', tk', nw, e, F', N', off', hS, hn, t', hy'⟩ := hq
      rw [hn] at N' off' hS
      refine ⟨h', tk', news, e, F', N', off', hS, ?_⟩
      rw [hy']
      refine ih (i + 1) _ (by omega) ?_
      rw [List.take_add_one, hk]
      simpa using kct_snoc hy
  exact key _ 0 [] (by omega) (by simp only [List.take_zero, List.map_nil]; exact .nil)
end
end Mine

namespace Mine
theorem lines_count : ∀ l : List Nat, (lines l).length ≤ l.length + 1
  | [] => Nat.le_refl _
  | c :: r => by
    obtain ⟨h, t, e⟩ := lines_ne r
    have ih := lines_count r
    by_cases hc : c = 10
    · subst hc; rw [lines_nl]; simpa using ih
    · rw [lines_ch hc e]; rw [e] at ih; simp only [List.length_cons] at *; omega
theorem lines_each : ∀ (l : List Nat) (a : List Nat), a ∈ lines l → a.length ≤ l.length
  | [], a, h => by simp only [lines, List.mem_singleton] at h; subst h; exact Nat.le_refl _
  | c :: r, a, h => by
    obtain ⟨b, t, e⟩ := lines_ne r
    have ih := lines_each r
    by_cases hc : c = 10
    · subst hc
      rw [lines_nl] at h
      rcases List.mem_cons.mp h with rfl | h
      · exact Nat.zero_le _
      · exact Nat.le_succ_of_le (ih a h)
    · rw [lines_ch hc e] at h
      rcases List.mem_cons.mp h with rfl | h
      · have := ih b (by rw [e]; exact List.mem_cons_self); simp only [List.length_cons]; omega
      · have := ih a (by rw [e]; exact List.mem_cons_of_mem _ h); simp only [List.length_cons]; omega
theorem rows_count (x : Str) : ((rows (C x)).map S).length ≤ x.length + 1 := by
  have := lines_count (C x); rw [C_length] at this; simpa [rows] using this
theorem rows_each (x : Str) : ∀ z ∈ (rows (C x)).map S, z.length ≤ x.length := by
  intro z hz
  obtain ⟨a, ha, rfl⟩ := List.mem_map.mp hz
  obtain ⟨b, hb, rfl⟩ := List.mem_map.mp ha
  rw [S_length]
  have h1 := cut_len b
  have h2 := lines_each _ _ hb
  rw [C_length] at h2
  omega
end Mine
namespace Mine
theorem ms_el {news : List (Addr × Obj)} {r r' : Str} {t : Tok} (e : r' = r) : MsEl news r (.str r' t) news := ⟨rfl, t, by rw [e]⟩
theorem len0 {z : Str} (h : ((z.length : Nat) : Int) = 0) : C z = [] := by
  have : (C z).length = 0 := by rw [C_length]; omega
  exact List.eq_nil_of_length_eq_zero this
theorem len1 {z : Str} (h : ((z.length : Nat) : Int) ≠ 0) : C z ≠ [] := fun e => h (by rw [← C_length, e]; rfl)
theorem cm_some {z : Str} (h : ((z.length : Nat) : Int) ≠ 0) : Str.ofString "# " ++ z = S (cm (C z)) := by
  refine eq_S_of ?_
  rw [C_append, show C (Str.ofString "# ") = [35, 32] by decide +kernel, cm, if_neg (len1 h)]
  rfl
theorem cm_none {z : Str} (h : ((z.length : Nat) : Int) = 0) : Str.ofString "#" = S (cm (C z)) := by
  refine eq_S_of ?_
  rw [cm, if_pos (len0 h)]
  decide +kernel
theorem my_join {prog : Program} {w : World} {A : Around} {E : Value → Shared → Prop} {s : Shared} {t : Tok} {Q : Value → Shared → Prop} {D : Addr} {vs : List Value} {ys : List Str} (B n : Nat) (hl : s.heap.IsList D vs.toArray) (hi : StrsAre vs ys) (hB : ∀ y ∈ ys, y.length ≤ B) (hn : ys.length ≤ n) (hok : n * B + n ≤ 16777216)
    (h : ∀ t' k, Q (.str (Txt.join (Str.ofString "\n") ys) t') { s with toks := k }) : wpAny (model prog w) A (call (.builtin "str.join") [.str (Str.ofString "\n") t, .ref D]) Q E s := by
  refine join_list hl (ys := ys) (by simpa using hi) ?_ h
  have h1 := StrLaws.sumLen_le ys hB
  have h2 : (Str.ofString "\n").length = 1 := by decide +kernel
  have h3 : ys.length * B ≤ n * B := Nat.mul_le_mul_right _ hn
  rw [h2]; omega
theorem cm_len (z : Str) : (S (cm (C z))).length ≤ z.length + 2 := by
  rw [S_length, cm]; split
  · simp
  · simp [C_length]
theorem cms_each {xs : List Str} {n : Nat} (h : ∀ z ∈ xs, z.length ≤ n) : ∀ y ∈ xs.map (fun r => S (cm (C r))), y.length ≤ n + 2 := by
  intro y hy
  obtain ⟨z, hz, rfl⟩ := List.mem_map.mp hy
  have := cm_len z; have := h z hz; omega
theorem comment_end (x : Str) : Txt.join (Str.ofString "\n") (((rows (C x)).map S).map fun r => S (cm (C r))) = S (comment (C x)) := by
  unfold comment
  rw [← joinN_join]
  simp [Function.comp_def, C_S]
end Mine

namespace Mine
theorem endP {h₀ h' : Heap} {L : Addr} {m : Str → Option Value} {news news' : List (Addr × Obj)} {s : Shared} {Q : Value → Shared → Prop} {t u : Tok} {tk' : Nat} {y z y' z' : Str} {D : Addr}
    (hret : ∀ v new h' tk', Fr h₀ L h' m → News h₀ L h' (new ++ news) → (∀ q ∈ new, LCg.Off1 q.1 news) → OutP y z new v → Q v { s with heap := h', toks := tk' })
    (F : Fr h₀ L h' m) (N : News h₀ L h' news') (sub : ∀ p ∈ (D, ({ cls := .type "tuple", data := .seq #[.str y' t, .str z' u] 0 } : Obj)) :: news, p ∈ news') (off : LCg.Off1 D news) (e : y = y' ∧ z = z') : Q (.ref D) { s with heap := h', toks := tk' } :=
  endOne hret F N sub off ⟨D, t, u, by rw [e.1, e.2], rfl⟩
theorem part2_len (b : List Nat) : ((Txt.partition (Txt.partition (S b) (Str.ofString "\n")).2.2 (Str.ofString "\n")).1).length ≤ (S b).length :=
  Nat.le_trans (fact_partition _ _).1 (fact_partition _ _).2.2
end Mine
namespace Mine
theorem cutS_len {x : Str} {n : Nat} (h : x.length ≤ n) : (S (cut (C x))).length ≤ n := by
  rw [S_length]; have := cut_len (C x); rw [C_length] at this; omega
theorem bareS_len {x : Str} {n : Nat} (h : x.length ≤ n) : (S (bare (C x))).length ≤ n := by
  rw [S_length]; have := bare_len (C x); rw [C_length] at this; omega
end Mine

namespace Mine
section
variable {prog : Program} {w : World} {A : Around} {E : Value → Shared → Prop} {s : Shared} {h₀ : Heap} {L : Addr} {m : Str → Option Value} {news : List (Addr × Obj)} {Q : Value → Shared → Prop} {t u : Tok}
theorem my_strip {x : Str} (hg : Good (C x)) (hx : x.length ≤ 90000) (h : ∀ t' k, (S (bare (C x))).length ≤ x.length → Q (.str (S (bare (C x))) t') { s with toks := k }) : wpAny (model prog w) A (call (.builtin "str.strip") [.str x t]) Q E s :=
  SC.strip (fun t' k => by rw [strip_good hg]; exact h t' k (bareS_len (Nat.le_refl _))) (by rw [PySem.sizeLine_eq]; omega)
theorem my_rstrip {x : Str} (hg : Good (C x)) (hx : x.length ≤ 90000) (h : ∀ t' k, (S (cut (C x))).length ≤ x.length → Q (.str (S (cut (C x))) t') { s with toks := k }) : wpAny (model prog w) A (call (.builtin "str.rstrip") [.str x t]) Q E s :=
  SC.rstrip (fun t' k => by rw [rstrip_good hg]; exact h t' k (cutS_len (Nat.le_refl _))) (by rw [PySem.sizeLine_eq]; omega)
theorem my_split {l : List Nat} (hl : l.length ≤ 90000) (hF : Fr h₀ L s.heap m) (hN : News h₀ L s.heap news)
    (h : ∀ D vs h' k, StrsAre vs ((lines l).map S) → Fr h₀ L h' m → News h₀ L h' ((D, listOf vs.toArray 0) :: news) → LCg.Off1 D news → Q (.ref D) { s with heap := h', toks := k }) :
    wpAny (model prog w) A (call (.builtin "str.split") [.str (S l) t, .str (Str.ofString "\n") u]) Q E s :=
  KSpl.split1 hF hN (by decide +kernel) (fun D vs h' k e a F' N' lt => h D _ h' k (by rw [← split_lines, ← e]; exact a) F' N' (off_of_lt lt)) (by rw [PySem.sizeLine_eq]; simp only [S_length]; omega)
end
theorem slice2 (a b : Value) (r : List Value) : (slicePick (a :: b :: r).toArray (some 2) none none).toList = r := by
  have e : sliceBounds (some 2) none none (a :: b :: r).toArray.size = (((2 : Nat) : Int), (((a :: b :: r).toArray.size : Nat) : Int), 1) := by
    simp only [sliceBounds, Option.getD_none, show (1 : Int) > 0 by decide, if_true, if_neg (show ¬ ((2 : Int) < 0) by omega), List.size_toArray, List.length_cons]
    congr 1
    omega
  rw [kmk_pick_nat _ e]
  show ((a :: b :: r).drop 2).take ((a :: b :: r).toArray.size - 2) = r
  simp
/-- the rows of a text: one, or two and more -/
theorem two_ways {b : List Nat} {vs : List Value} (h : StrsAre vs ((lines b).map S)) :
    (∃ t, vs = [.str (S b) t] ∧ lines b = [b]) ∨ ∃ p q r t u vs', lines b = p :: q :: r ∧ vs = .str (S p) t :: .str (S q) u :: vs' ∧ StrsAre vs' (r.map S) := by
  have hj := joinN_lines b
  generalize hls : lines b = ls at h hj
  match ls, h, hj with
  | [], _, _ => obtain ⟨p, q, e⟩ := lines_ne b; rw [hls] at e; cases e
  | [p], h, hj =>
    have hp : p = b := hj
    subst hp
    cases h with
    | cons _ t r => cases r; exact .inl ⟨t, rfl, rfl⟩
  | p :: q :: r, h, _ =>
    cases h with
    | cons _ t h' => cases h' with
      | cons _ u h'' => exact .inr ⟨p, q, r, t, u, _, rfl, rfl, h''⟩
theorem pair_1 {b : List Nat} (h : lines b = [b]) : pairOf b = (b, []) := by unfold pairOf; rw [h]
theorem pair_2 {b p q : List Nat} {r : List (List Nat)} (h : lines b = p :: q :: r) : pairOf b = if cut q = [] then (p, joinN r) else ([], b) := by unfold pairOf; rw [h]
end Mine
namespace Mine
section
variable {prog : Program} {w : World} {A : Around} {E : Value → Shared → Prop} {s : Shared} {h₀ : Heap} {L : Addr} {m : Str → Option Value} {news : List (Addr × Obj)} {Q : Value → Shared → Prop}
theorem my_len2 {D : Addr} {a b : Value} {r : List Value} {n : Nat} (N : News h₀ L s.heap news) (hm : (D, listOf (a :: b :: r).toArray n) ∈ news) (hr : r.length ≤ 100000) (h : Q (.int ((r.length : Int) + 2) (s.toks + 1)) { s with toks := s.toks + 1 + 1 }) :
    wpAny (model prog w) A (call (.builtin "len") [.ref D]) Q E s := by
  refine len_list (News.isList N hm) (by simp only [List.size_toArray, List.length_cons]; omega) ?_
  have e : (((a :: b :: r).toArray.size : Nat) : Int) = (r.length : Int) + 2 := by simp only [List.size_toArray, List.length_cons]; omega
  rw [e]; exact h
theorem my_item {value slice : PySem.Expr} {l : Addr} {vs : List Value} {n : Nat} {k : Int} {u : Tok} {v : Value} (N : News h₀ L s.heap news) (hm : (l, listOf vs.toArray n) ∈ news) (h0 : 0 ≤ k) (hhi : k < 2 ^ 63) (hx : vs[k.toNat]? = some v) (h : Q v s)
    (hs : subscripted slice false (.ref l) (.int k u) = operate [.ref l, .int k u] (getItem (.ref l) (.int k u))) :
    wpAny (model prog w) A (subscriptTail value slice (.ref l) (.int k u)) Q E s :=
  have hl : s.heap.IsList l vs.toArray := News.isList N hm
  tail_any hl.typeIs slot_list_getitem.lookup (wpAny_getItem_list hl h0 hhi (by simpa using hx) h) hs
end
theorem rest_len {x : Str} {p q : List Nat} {r : List (List Nat)} {vs : List Value} (hx : x.length ≤ 3000) (h : lines (bare (C x)) = p :: q :: r) (i : StrsAre vs (r.map S)) : vs.length ≤ 3000 := by
  have h1 := lines_count (bare (C x)); have h2 := bare_len (C x); rw [C_length] at h2; rw [h] at h1
  have h3 := strs_len i; rw [List.length_map] at h3
  simp only [List.length_cons] at h1; omega
theorem lines_each' {x : Str} {p q : List Nat} {r : List (List Nat)} (hx : x.length ≤ 3000) (h : lines (bare (C x)) = p :: q :: r) : ∀ a ∈ (p :: q :: r).map S, a.length ≤ 3000 := by
  intro a ha
  obtain ⟨b, hb, rfl⟩ := List.mem_map.mp ha
  rw [← h] at hb
  have h1 := lines_each _ _ hb; have h2 := bare_len (C x); rw [C_length] at h2; rw [S_length]; omega
end Mine
namespace Mine
theorem sd_1 {x : Str} (h : lines (bare (C x)) = [bare (C x)]) : S (pair (C x)).1 = S (bare (C x)) ∧ S (pair (C x)).2 = Str.ofString "" := by
  unfold pair; rw [pair_1 h]; exact ⟨rfl, S_nil⟩
theorem nlen0 {q : List Nat} (h : (((S (cut (C (S q)))).length : Nat) : Int) = 0) : cut q = [] := by
  rw [S_length, C_S] at h; exact List.eq_nil_of_length_eq_zero (by omega)
theorem nlen1 {q : List Nat} (h : (((S (cut (C (S q)))).length : Nat) : Int) ≠ 0) : cut q ≠ [] := fun e => h (by rw [S_length, C_S, e]; rfl)
theorem sd_2 {x : Str} {p q : List Nat} {r : List (List Nat)} (h : lines (bare (C x)) = p :: q :: r) (hq : (((S (cut (C (S q)))).length : Nat) : Int) ≠ 0) : S (pair (C x)).1 = Str.ofString "" ∧ S (pair (C x)).2 = Txt.join (Str.ofString "\n") ((lines (bare (C x))).map S) := by
  unfold pair; rw [pair_2 h, if_neg (nlen1 hq), joinN_join, joinN_lines]; exact ⟨S_nil, rfl⟩
theorem sd_3 {x : Str} {p q : List Nat} {r : List (List Nat)} (h : lines (bare (C x)) = p :: q :: r) (hq : (((S (cut (C (S q)))).length : Nat) : Int) = 0) : S (pair (C x)).1 = S p ∧ S (pair (C x)).2 = Txt.join (Str.ofString "\n") (r.map S) := by
  unfold pair; rw [pair_2 h, if_pos (nlen0 hq), joinN_join]; exact ⟨rfl, rfl⟩
end Mine

namespace Mine
open PySem.Builtin PySem.Builtin.Str in
def find4 (x y : Str) (i e : Int) : Int := match occurrences x y (fromIndex x.length i) (min (fromIndex x.length e) x.length) 1 with | k :: _ => (k : Int) | [] => -1
open PySem.Builtin PySem.Builtin.Str in
def rfind4 (x y : Str) (i e : Int) : Int := match lastOccurrence x y (fromIndex x.length i) (min (fromIndex x.length e) x.length) with | some k => (k : Int) | none => -1
open PySem.Builtin PySem.Builtin.Str in
theorem gives_find4 (x y : Str) (i e : Int) (t u v r : Tok) : PySem.Gives («str.find» ⟨[.str x t, .str y u, .int i v, .int e r], []⟩) (.int (find4 x y i e)) := by
  show PySem.Gives (match occurrences x y (fromIndex x.length i) (min (fromIndex x.length e) x.length) 1 with | k :: _ => retInt k | [] => (do rule "str.find.not-found"; retInt (-1))) _
  unfold find4
  cases occurrences x y (fromIndex x.length i) (min (fromIndex x.length e) x.length) 1 with
  | nil => exact .rule (.of_eq rfl)
  | cons k _ => exact .of_eq rfl
open PySem.Builtin PySem.Builtin.Str in
theorem gives_rfind4 (x y : Str) (i e : Int) (t u v r : Tok) : PySem.Gives («str.rfind» ⟨[.str x t, .str y u, .int i v, .int e r], []⟩) (.int (rfind4 x y i e)) := by
  show PySem.Gives (match lastOccurrence x y (fromIndex x.length i) (min (fromIndex x.length e) x.length) with | some k => retInt k | none => (do rule "str.rfind.not-found"; retInt (-1))) _
  unfold rfind4
  cases lastOccurrence x y (fromIndex x.length i) (min (fromIndex x.length e) x.length) with
  | none => exact .rule (.of_eq rfl)
  | some k => exact .of_eq rfl
section
variable {prog : Program} {w : World} {A : Around} {E : Value → Shared → Prop} {s : Shared} {Q : Value → Shared → Prop} {t u v r : Tok} {x y : Str} {i e : Int}
theorem my_find4 (hf : find4 x y i e = -1 ∨ (0 ≤ find4 x y i e ∧ find4 x y i e < e)) (hq : (find4 x y i e = -1 ∨ (0 ≤ find4 x y i e ∧ find4 x y i e < e)) → Q (.int (find4 x y i e) s.toks) { s with toks := s.toks + 1 }) : wpAny (model prog w) A (call (.builtin "str.find") [.str x t, .str y u, .int i v, .int e r]) Q E s :=
  PySem.call_gives F.slot_str_find (typeIs_str _ _ _) F.entry_str_find (F.args_str_find_4 _ _ _ _) (gives_find4 x y i e t u v r) (hq hf)
theorem my_rfind4 (hf : rfind4 x y i e = -1 ∨ (0 ≤ rfind4 x y i e ∧ rfind4 x y i e < e)) (hq : (rfind4 x y i e = -1 ∨ (0 ≤ rfind4 x y i e ∧ rfind4 x y i e < e)) → Q (.int (rfind4 x y i e) s.toks) { s with toks := s.toks + 1 }) : wpAny (model prog w) A (call (.builtin "str.rfind") [.str x t, .str y u, .int i v, .int e r]) Q E s :=
  PySem.call_gives F.slot_str_rfind (typeIs_str _ _ _) F.entry_str_rfind (F.args_str_rfind_4 _ _ _ _) (gives_rfind4 x y i e t u v r) (hq hf)
end
end Mine

namespace Mine
end Mine

namespace Mine
namespace Q
open PySem.StrLaws PySem.Builtin PySem.Builtin.Str
theorem occ_head_hi (x y : Str) (hi : Nat) :
    (occurrences x y 0 hi 1 = [] ∧ ∀ i, ¬ At x y hi i) ∨ ∃ i r, occurrences x y 0 hi 1 = i :: r ∧ At x y hi i ∧ ∀ k, k < i → ¬ At x y hi k := by
  rw [occ_eq]
  rcases occ_first x y hi 1 (Nat.le_refl 1) (List.range' 0 (hi + 1 - 0)) 0 (fun _ _ => Nat.zero_le _) with ⟨h0, hn⟩ | ⟨pre, a, post, e, h0, ha, hn⟩
  · refine .inl ⟨by rw [h0], fun i hi' => ?_⟩
    exact hn i (by have := hi'.1; rw [List.mem_range'_1]; omega) hi'
  · refine .inr ⟨a, ((forIn (List.range' 0 (hi + 1 - 0)) ((#[] : Array Nat), 0) (occBody x y hi 1)).run.fst.toList).tail, ?_, ha, fun k hk => hn k (range'_split e k hk)⟩
    generalize (forIn (List.range' 0 (hi + 1 - 0)) ((#[] : Array Nat), 0) (occBody x y hi 1)).run.fst = arr at h0
    have h1 : arr.toList[0]? = some a := by simpa using h0
    cases hL : arr.toList with
    | nil => rw [hL] at h1; cases h1
    | cons b t => rw [hL] at h1; simp at h1; rw [h1]; rfl
theorem last_hi (x y : Str) (hi : Nat) : (lastOccurrence x y 0 hi = none ∧ ∀ i, ¬ At x y hi i) ∨ ∃ i, lastOccurrence x y 0 hi = some i ∧ At x y hi i ∧ ∀ k, i < k → ¬ At x y hi k := by
  rw [last_eq]
  have key := last_run x y hi (List.range' 0 (hi + 1 - 0)) [] none (fun _ h => nomatch h) (fun _ h => nomatch h) (by simpa using List.pairwise_lt_range' (s := 0) (n := hi + 1 - 0))
  have mem : ∀ i, At x y hi i → i ∈ [] ++ List.range' 0 (hi + 1 - 0) := fun i hi' => by have := hi'.1; rw [List.nil_append, List.mem_range'_1]; omega
  cases hr : (forIn (List.range' 0 (hi + 1 - 0)) none (lastBody x y hi)).run with
  | none => rw [hr] at key; exact .inl ⟨rfl, fun i hi' => key i (mem i hi') hi'⟩
  | some a => rw [hr] at key; exact .inr ⟨a, rfl, key.1, fun k hk hA => key.2 k (mem k hA) hk hA⟩
theorem at_hi (x : Str) (c hi i : Nat) (hl : hi ≤ x.length) : At x ⟨#[c]⟩ hi i ↔ i < hi ∧ (C x)[i]? = some c := by
  have h1 := StrLaws.subAt_one x c i
  constructor
  · intro h
    have e : (⟨#[c]⟩ : Str).length = 1 := rfl
    have h2 : i + 1 ≤ hi := h.1
    exact ⟨by omega, h1.mp ⟨by have := h.1; omega, h.2⟩⟩
  · rintro ⟨h2, h3⟩
    have e : (⟨#[c]⟩ : Str).length = 1 := rfl
    exact ⟨by rw [e]; omega, (h1.mpr h3).2⟩
theorem from0 (n : Nat) : fromIndex n 0 = 0 := by simp [fromIndex]
theorem fromE (n : Nat) {e : Int} (h : 0 ≤ e) : fromIndex n e = e.toNat := by
  unfold fromIndex; rw [if_neg (by omega)]; omega
/-- find with an end -/
theorem find4_spec (x : Str) (c : Nat) (y : Str) (hy : y = ⟨#[c]⟩) {e : Int} (he : 0 ≤ e) (hl : e ≤ x.length) :
    (find4 x y 0 e = -1 ∧ ∀ i, i < e.toNat → (C x)[i]? ≠ some c) ∨ ∃ p : Nat, find4 x y 0 e = p ∧ p < e.toNat ∧ (C x)[p]? = some c ∧ ∀ i, i < p → (C x)[i]? ≠ some c := by
  subst hy
  unfold find4
  rw [from0, fromE _ he, Nat.min_eq_left (by omega)]
  rcases occ_head_hi x ⟨#[c]⟩ e.toNat with ⟨h0, hn⟩ | ⟨i, r, h0, hi, hn⟩
  · rw [h0]
    exact .inl ⟨rfl, fun i h1 h2 => hn i ((at_hi x c _ i (by omega)).mpr ⟨h1, h2⟩)⟩
  · rw [h0]
    have := (at_hi x c _ i (by omega)).mp hi
    exact .inr ⟨i, rfl, this.1, this.2, fun k hk h2 => hn k hk ((at_hi x c _ k (by omega)).mpr ⟨by omega, h2⟩)⟩
theorem rfind4_spec (x : Str) (c : Nat) (y : Str) (hy : y = ⟨#[c]⟩) {e : Int} (he : 0 ≤ e) (hl : e ≤ x.length) :
    (rfind4 x y 0 e = -1 ∧ ∀ i, i < e.toNat → (C x)[i]? ≠ some c) ∨ ∃ p : Nat, rfind4 x y 0 e = p ∧ p < e.toNat ∧ (C x)[p]? = some c ∧ ∀ i, p < i → i < e.toNat → (C x)[i]? ≠ some c := by
  subst hy
  unfold rfind4
  rw [from0, fromE _ he, Nat.min_eq_left (by omega)]
  rcases last_hi x ⟨#[c]⟩ e.toNat with ⟨h0, hn⟩ | ⟨i, h0, hi, hn⟩
  · rw [h0]
    exact .inl ⟨rfl, fun i h1 h2 => hn i ((at_hi x c _ i (by omega)).mpr ⟨h1, h2⟩)⟩
  · rw [h0]
    have := (at_hi x c _ i (by omega)).mp hi
    exact .inr ⟨i, rfl, this.1, this.2, fun k hk h1 h2 => hn k hk ((at_hi x c _ k (by omega)).mpr ⟨h1, h2⟩)⟩
theorem colon_eq : Str.ofString ":" = ⟨#[58]⟩ := by decide +kernel
theorem dot_eq : Str.ofString "." = ⟨#[46]⟩ := by decide +kernel
theorem find_spec (x : Str) : (Txt.find x (Str.ofString "\n") = -1 ∧ ∀ i : Nat, (C x)[i]? ≠ some 10) ∨ ∃ p : Nat, Txt.find x (Str.ofString "\n") = p ∧ p < x.length ∧ (C x)[p]? = some 10 ∧ ∀ i, i < p → (C x)[i]? ≠ some 10 := by
  rw [nl_eq]
  unfold Txt.find
  rcases occ_head x ⟨#[10]⟩ 1 (Nat.le_refl 1) with ⟨h0, hn⟩ | ⟨i, r, h0, hi, hn⟩
  · rw [h0]
    exact .inl ⟨rfl, fun i h2 => hn i ((at_one x 10 i).mpr h2)⟩
  · rw [h0]
    have := (at_hi x 10 x.length i (Nat.le_refl _)).mp hi
    exact .inr ⟨i, rfl, this.1, this.2, fun k hk h2 => hn k hk ((at_one x 10 k).mpr h2)⟩
end Q
theorem find4_fact (x : Str) (e : Int) (he : 0 ≤ e) : find4 x (Str.ofString ":") 0 e = -1 ∨ (0 ≤ find4 x (Str.ofString ":") 0 e ∧ find4 x (Str.ofString ":") 0 e < e) := by
  rw [Q.colon_eq]
  unfold find4
  rw [Q.from0, Q.fromE _ he]
  rcases Q.occ_head_hi x ⟨#[58]⟩ (min e.toNat x.length) with ⟨h0, _⟩ | ⟨i, r, h0, hi, _⟩
  · rw [h0]; exact .inl rfl
  · rw [h0]
    have := ((Q.at_hi x 58 _ i (Nat.min_le_right _ _)).mp hi).1
    right; dsimp only; omega
theorem rfind4_fact (x : Str) (e : Int) (he : 0 ≤ e) : rfind4 x (Str.ofString ".") 0 e = -1 ∨ (0 ≤ rfind4 x (Str.ofString ".") 0 e ∧ rfind4 x (Str.ofString ".") 0 e < e) := by
  rw [Q.dot_eq]
  unfold rfind4
  rw [Q.from0, Q.fromE _ he]
  rcases Q.last_hi x ⟨#[46]⟩ (min e.toNat x.length) with ⟨h0, _⟩ | ⟨i, h0, hi, _⟩
  · rw [h0]; exact .inl rfl
  · rw [h0]
    have := ((Q.at_hi x 46 _ i (Nat.min_le_right _ _)).mp hi).1
    right; dsimp only; omega
theorem nameGo_stop : ∀ (u v h : List Nat), (v = [] ∨ v.head? = some 58 ∨ v.head? = some 10) → nameGo h (u ++ v) = nameGo h u
  | [], v, h, hv => by
    cases v with
    | nil => rfl
    | cons c r =>
      have : c = 58 ∨ c = 10 := by rcases hv with hv | hv | hv <;> simp_all
      simp [nameGo, this]
  | c :: u, v, h, hv => by
    rw [List.cons_append, nameGo, nameGo]
    split
    · rfl
    · exact nameGo_stop u v _ hv
theorem nameGo_plain : ∀ (u h : List Nat), (∀ c ∈ u, c ≠ 58 ∧ c ≠ 10 ∧ c ≠ 46) → nameGo h u = h ++ u
  | [], h, _ => by simp [nameGo]
  | c :: u, h, hu => by
    have := hu c List.mem_cons_self
    rw [nameGo, if_neg (by omega), if_neg this.2.2, nameGo_plain u _ fun d hd => hu d (List.mem_cons_of_mem _ hd)]
    simp
theorem nameGo_dot : ∀ (a b h : List Nat), (∀ c ∈ a, c ≠ 58 ∧ c ≠ 10) → (∀ c ∈ b, c ≠ 58 ∧ c ≠ 10 ∧ c ≠ 46) → nameGo h (a ++ 46 :: b) = b
  | [], b, h, _, hb => by
    rw [List.nil_append, nameGo, if_neg (by omega), if_pos rfl, nameGo_plain b [] hb]; rfl
  | c :: a, b, h, ha, hb => by
    have := ha c List.mem_cons_self
    rw [List.cons_append, nameGo, if_neg (by omega)]
    exact nameGo_dot a b _ (fun d hd => ha d (List.mem_cons_of_mem _ hd)) hb
theorem take_no {l : List Nat} {p : Nat} {c : Nat} (h : ∀ i, i < p → l[i]? ≠ some c) : ∀ d ∈ l.take p, d ≠ c := by
  intro d hd e
  obtain ⟨k, hk, ek⟩ := List.mem_iff_getElem.mp hd
  rw [List.length_take] at hk
  rw [List.getElem_take] at ek
  exact h k (by omega) (by rw [List.getElem?_eq_getElem (by omega), ek, e])
theorem name_cut (l : List Nat) (p st : Nat) (hp : p ≤ l.length) (h1 : ∀ i, i < p → l[i]? ≠ some 58 ∧ l[i]? ≠ some 10) (h2 : p = l.length ∨ l[p]? = some 58 ∨ l[p]? = some 10)
    (h3 : (st = 0 ∧ ∀ i, i < p → l[i]? ≠ some 46) ∨ ∃ q, st = q + 1 ∧ q < p ∧ l[q]? = some 46 ∧ ∀ i, q < i → i < p → l[i]? ≠ some 46) :
    name l = (l.drop st).take (p - st) := by
  have e0 : l = l.take p ++ l.drop p := (List.take_append_drop p l).symm
  have hst : name l = nameGo [] (l.take p) := by
    unfold name
    conv => lhs; rw [e0]
    refine nameGo_stop _ _ _ ?_
    rcases h2 with h2 | h2 | h2
    · left; rw [h2]; simp
    · right; left; rw [List.head?_drop]; exact h2
    · right; right; rw [List.head?_drop]; exact h2
  rw [hst]
  have hs1 := take_no (l := l) (p := p) (c := 58) fun i hi => (h1 i hi).1
  have hs2 := take_no (l := l) (p := p) (c := 10) fun i hi => (h1 i hi).2
  rcases h3 with ⟨rfl, h3⟩ | ⟨q, rfl, hq, h4, h5⟩
  · have hs3 := take_no (l := l) (p := p) (c := 46) h3
    rw [nameGo_plain _ _ fun c hc => ⟨hs1 c hc, hs2 c hc, hs3 c hc⟩]
    simp
  · obtain ⟨hlt, e4⟩ := List.getElem?_eq_some_iff.mp h4
    have et : l.take p = l.take q ++ 46 :: (l.drop (q + 1)).take (p - (q + 1)) := by
      have ed : l.drop q = 46 :: l.drop (q + 1) := by rw [← e4, List.getElem_cons_drop]
      have e1 : l.take p = l.take q ++ (l.drop q).take (p - q) := by
        have : p = q + (p - q) := by omega
        conv => lhs; rw [this]
        rw [List.take_add]
      rw [e1, ed, show p - q = (p - (q + 1)) + 1 by omega, List.take_succ_cons]
    rw [et]
    refine nameGo_dot _ _ _ ?_ ?_
    · intro c hc
      have : c ∈ l.take p := by rw [et]; exact List.mem_append_left _ hc
      exact ⟨hs1 c this, hs2 c this⟩
    · intro c hc
      have : c ∈ l.take p := by rw [et]; exact List.mem_append_right _ (List.mem_cons_of_mem _ hc)
      refine ⟨hs1 c this, hs2 c this, ?_⟩
      intro e
      obtain ⟨k, hk, ek⟩ := List.mem_iff_getElem.mp hc
      rw [List.length_take, List.length_drop] at hk
      rw [List.getElem_take, List.getElem_drop] at ek
      exact h5 (q + 1 + k) (by omega) (by omega) (by rw [List.getElem?_eq_getElem (by omega), ek, e])
theorem strip_end {x : Str} {r1 e st : Int} (hr : 0 ≤ Txt.find x (Str.ofString "\n") ∧ r1 = Txt.find x (Str.ofString "\n") ∨ ¬0 ≤ Txt.find x (Str.ofString "\n") ∧ r1 = x.length)
    (he : (0 ≤ find4 x (Str.ofString ":") 0 r1 ∧ e = find4 x (Str.ofString ":") 0 r1) ∨ (¬ 0 ≤ find4 x (Str.ofString ":") 0 r1 ∧ e = r1))
    (hs : (0 ≤ rfind4 x (Str.ofString ".") 0 e ∧ st = rfind4 x (Str.ofString ".") 0 e + 1) ∨ (¬ 0 ≤ rfind4 x (Str.ofString ".") 0 e ∧ st = 0)) : Txt.slice x (some st) (some e) = S (name (C x)) := by
  have hn : (C x).length = x.length := C_length x
  have H1 : ∃ p1 : Nat, r1 = p1 ∧ p1 ≤ x.length ∧ (∀ i, i < p1 → (C x)[i]? ≠ some 10) ∧ (p1 = x.length ∨ (C x)[p1]? = some 10) := by
    rcases Q.find_spec x with ⟨h, hf⟩ | ⟨p, h, hp, hc, hf⟩
    · rcases hr with ⟨h1, _⟩ | ⟨_, h1⟩
      · rw [h] at h1; omega
      · exact ⟨x.length, h1, Nat.le_refl _, fun i _ => hf i, .inl rfl⟩
    · rcases hr with ⟨_, h1⟩ | ⟨h1, _⟩
      · exact ⟨p, by rw [h1, h], by omega, hf, .inr hc⟩
      · rw [h] at h1; omega
  obtain ⟨p1, rfl, hp1, hf1, hl1⟩ := H1
  have H2 : ∃ p2 : Nat, e = p2 ∧ p2 ≤ p1 ∧ (∀ i, i < p2 → (C x)[i]? ≠ some 58) ∧ (p2 = p1 ∨ (C x)[p2]? = some 58) := by
    rcases Q.find4_spec x 58 _ Q.colon_eq (e := (p1 : Int)) (by omega) (by omega) with ⟨h, hf⟩ | ⟨p, h, hp, hc, hf⟩
    · rcases he with ⟨h1, _⟩ | ⟨_, h1⟩
      · rw [h] at h1; omega
      · exact ⟨p1, h1, Nat.le_refl _, fun i hi => hf i (by omega), .inl rfl⟩
    · rcases he with ⟨_, h1⟩ | ⟨h1, _⟩
      · exact ⟨p, by rw [h1, h], by omega, hf, .inr hc⟩
      · rw [h] at h1; omega
  obtain ⟨p2, rfl, hp2, hf2, hl2⟩ := H2
  have H3 : ∃ p3 : Nat, st = p3 ∧ p3 ≤ p2 ∧ ((p3 = 0 ∧ ∀ i, i < p2 → (C x)[i]? ≠ some 46) ∨ ∃ q, p3 = q + 1 ∧ q < p2 ∧ (C x)[q]? = some 46 ∧ ∀ i, q < i → i < p2 → (C x)[i]? ≠ some 46) := by
    rcases Q.rfind4_spec x 46 _ Q.dot_eq (e := (p2 : Int)) (by omega) (by omega) with ⟨h, hf⟩ | ⟨p, h, hp, hc, hf⟩
    · rcases hs with ⟨h1, _⟩ | ⟨_, h1⟩
      · rw [h] at h1; omega
      · exact ⟨0, h1, Nat.zero_le _, .inl ⟨rfl, fun i hi => hf i (by omega)⟩⟩
    · rcases hs with ⟨_, h1⟩ | ⟨h1, _⟩
      · refine ⟨p + 1, by rw [h1, h]; omega, by omega, .inr ⟨p, rfl, by omega, hc, fun i h1 h2 => hf i h1 (by omega)⟩⟩
      · rw [h] at h1; omega
  obtain ⟨p3, rfl, hp3, h3⟩ := H3
  show StrLaws.sliceText x (some _) (some _) = _
  rw [StrLaws.sliceText_nat x hp3 (by omega)]
  show S (((C x).drop p3).take (p2 - p3)) = _
  rw [name_cut (C x) p2 p3 (by omega) (fun i hi => ⟨hf2 i hi, hf1 i (by omega)⟩) (by
    rcases hl2 with h | h
    · rcases hl1 with h' | h'
      · left; omega
      · right; right; rw [h]; exact h'
    · exact .inr (.inl h)) h3]
end Mine

namespace Mine
/-- what one turn of replace makes -/
def rep (a b x : Str) : Str := Txt.join b (Txt.split x a)
def rep3 (x : Str) : Str := rep (Str.ofString "\n!") (Str.ofString "\n") (rep (Str.ofString "\n#") (Str.ofString "\n") (rep (Str.ofString "\n# ") (Str.ofString "\n!") x))
end Mine

namespace Mine
namespace Q
/-- a split is by the chain of the places -/
theorem split_parts (x y : Str) (hy : 1 ≤ y.length) : Txt.split x y = StrLaws.partsFrom x y.length 0 (Builtin.Str.occurrences x y 0 x.length (x.length + 1)) := by
  rw [← StrLaws.partsBetween_eq]
  unfold Txt.split
  split
  · rename_i h
    rw [PySem.W.occ_nil_of_no x y _ fun i hi => ?_, PySem.W.parts_nil]
    rcases Bool.or_eq_true_iff.mp h with h | h
    · have := of_decide_eq_true h; omega
    · cases e : Builtin.Str.subAt x y i
      · rfl
      · have := PySem.W.kind_le x y e; have := of_decide_eq_true h; omega
  · split
    · rename_i h; rw [List.isEmpty_iff.mp h, PySem.W.parts_nil]
    · rfl
theorem at_iff (x y : Str) (hy : 1 ≤ y.length) (k : Nat) : StrLaws.At x y x.length k ↔ (C y) <+: (C x).drop k := by
  unfold StrLaws.At
  rw [StrLaws.subAt_eq, beq_iff_eq]
  constructor
  · rintro ⟨_, e⟩
    show C y <+: _
    rw [show C y = _ from e.symm]
    exact List.take_prefix _ _
  · intro h
    have hl := h.length_le
    rw [List.length_drop, C_length, C_length] at hl
    refine ⟨by omega, ?_⟩
    have := List.prefix_iff_eq_take.mp h
    rw [C_length] at this
    exact this.symm
def rowsText (rs : List (List Nat)) : List Nat := rs.flatMap fun r => 10 :: r
theorem rowsText_cons (r : List Nat) (rs : List (List Nat)) : rowsText (r :: rs) = 10 :: r ++ rowsText rs := by simp [rowsText]
theorem rowsText_join : ∀ {ls : List (List Nat)}, ls ≠ [] → rowsText ls = 10 :: joinN ls
  | [], h => (h rfl).elim
  | [a], _ => by simp [rowsText, joinN]
  | a :: b :: r, _ => by rw [rowsText_cons, rowsText_join (by simp)]; simp [joinN]
def repRow (σ b r : List Nat) : List Nat := if σ <+: r then b ++ r.drop σ.length else 10 :: r
theorem not_at_in {x y : Str} {σ : List Nat} (hy : C y = 10 :: σ) {k : Nat} (h : (C x)[k]? ≠ some 10) : ¬ StrLaws.At x y x.length k := by
  intro hA
  have h1 : 1 ≤ y.length := by rw [← C_length, hy]; simp
  have hp := (at_iff x y h1 k).mp hA
  rw [hy] at hp
  obtain ⟨t, ht⟩ := hp
  apply h
  have : ((C x).drop k)[0]? = some 10 := by rw [← ht]; rfl
  rw [List.getElem?_drop] at this
  exact this
theorem pre_rows {σ r : List Nat} {rs : List (List Nat)} (hσ : 10 ∉ σ) (hr : 10 ∉ r) : σ <+: r ++ rowsText rs ↔ σ <+: r := by
  constructor
  · intro h
    rcases Nat.lt_or_ge r.length σ.length with hl | hl
    · exfalso
      cases rs with
      | nil =>
        have := h.length_le
        simp [rowsText] at this; omega
      | cons q rs =>
        obtain ⟨t, ht⟩ := h
        have : (r ++ rowsText (q :: rs))[r.length]? = some 10 := by
          rw [rowsText_cons]; simp
        rw [← ht, List.getElem?_append_left hl] at this
        exact hσ (List.mem_of_getElem? this)
    · exact List.prefix_of_prefix_length_le h (List.prefix_append _ _) hl
  · intro h
    exact List.IsPrefix.trans h (List.prefix_append _ _)
theorem join_cons2 (b p : Str) (q : Str) (r : List Str) : C (Str.join b (p :: q :: r)) = C p ++ C b ++ C (Str.join b (q :: r)) := by
  have e : Str.join b (p :: q :: r) = p ++ b ++ Str.join b (q :: r) := rfl
  rw [e, C_append, C_append]
theorem strSub_C (x : Str) (i j : Nat) : C (Builtin.Str.strSub x i j) = ((C x).drop i).take (j - i) := StrLaws.strSub_toList x i j
theorem rep_go (x y b : Str) {σ : List Nat} (hy : C y = 10 :: σ) (hσ : 10 ∉ σ) : ∀ (rs : List (List Nat)) (hr : ∀ r ∈ rs, 10 ∉ r) (pre : List Nat) (a : Nat) (cuts : List Nat) (f : Nat),
    C x = pre ++ rowsText rs → a ≤ pre.length → (∀ k, a ≤ k → k < pre.length → ¬ StrLaws.At x y x.length k) → StrLaws.ChainG x y x.length a cuts f → (∀ k, f ≤ k → ¬ StrLaws.At x y x.length k) →
    C (Str.join b (StrLaws.partsFrom x y.length a cuts)) = pre.drop a ++ rs.flatMap (repRow σ (C b)) := by
  have hy1 : 1 ≤ y.length := by rw [← C_length, hy]; simp
  have hyl : y.length = σ.length + 1 := by rw [← C_length, hy]; simp
  intro rs
  induction rs with
  | nil =>
    intro hr pre a cuts f hx ha hn hc hf
    have hx' : C x = pre := by simpa [rowsText] using hx
    have hno : ∀ k, a ≤ k → ¬ StrLaws.At x y x.length k := by
      intro k hk hA
      have h1 := hA.1
      exact hn k hk (by rw [← hx', C_length]; omega) hA
    cases cuts with
    | nil =>
      show C (Builtin.Str.strSub x a x.length) = _
      rw [strSub_C, hx', List.flatMap_nil, List.append_nil]
      exact List.take_of_length_le (by rw [List.length_drop, ← hx', C_length]; exact Nat.le_refl _)
    | cons c r => exact (hno c hc.1 hc.2.1).elim
  | cons r rs ih =>
    intro hr pre a cuts f hx ha hn hc hf
    have hrf : 10 ∉ r := hr r List.mem_cons_self
    have hrs : ∀ q ∈ rs, 10 ∉ q := fun q hq => hr q (List.mem_cons_of_mem _ hq)
    have hx2 : C x = (pre ++ 10 :: r) ++ rowsText rs := by rw [hx, rowsText_cons]; simp
    have hd : (C x).drop pre.length = 10 :: (r ++ rowsText rs) := by rw [hx, rowsText_cons]; simp
    have hAt : StrLaws.At x y x.length pre.length ↔ σ <+: r := by
      rw [at_iff x y hy1, hd, hy, List.cons_prefix_cons]
      exact ⟨fun h => (pre_rows hσ hrf).mp h.2, fun h => ⟨rfl, (pre_rows hσ hrf).mpr h⟩⟩
    have hin : ∀ k, pre.length < k → k < (pre ++ 10 :: r).length → ¬ StrLaws.At x y x.length k := by
      intro k h1 h2
      refine not_at_in hy ?_
      rw [hx2, List.getElem?_append_left h2]
      intro e
      rw [List.getElem?_append_right (by omega)] at e
      have e2 : k - pre.length = (k - pre.length - 1) + 1 := by omega
      rw [e2, List.getElem?_cons_succ] at e
      exact hrf (List.mem_of_getElem? e)
    rw [List.flatMap_cons]
    by_cases hp : σ <+: r
    · have hA := hAt.mpr hp
      cases cuts with
      | nil =>
        have hfa : f = a := hc
        exact (hf pre.length (by omega) hA).elim
      | cons c cs =>
        obtain ⟨h1, h2, h3, h4⟩ := hc
        have hcp : c = pre.length := by
          rcases Nat.lt_trichotomy c pre.length with h | h | h
          · exact (hn c h1 h h2).elim
          · exact h
          · exact (h3 pre.length ha h hA).elim
        subst hcp
        have hle : pre.length + y.length ≤ (pre ++ 10 :: r).length := by
          have := hp.length_le
          rw [List.length_append, List.length_cons]; omega
        have := ih hrs (pre ++ 10 :: r) (pre.length + y.length) cs f hx2 hle (fun k q1 q2 => hin k (by omega) q2) h4 hf
        obtain ⟨p, ps, ep⟩ := StrLaws.partsFrom_ne x y.length (pre.length + y.length) cs
        show C (Str.join b (Builtin.Str.strSub x a pre.length :: StrLaws.partsFrom x y.length (pre.length + y.length) cs)) = _
        rw [ep, join_cons2, ← ep, this, strSub_C, hx]
        have e1 : ((pre ++ rowsText (r :: rs)).drop a).take (pre.length - a) = pre.drop a := by
          rw [List.drop_append_of_le_length ha]
          have : pre.length - a = (pre.drop a).length := by rw [List.length_drop]
          rw [this]; simp
        have e2 : (pre ++ 10 :: r).drop (pre.length + y.length) = r.drop σ.length := by
          rw [hyl, ← List.drop_drop]; simp
        rw [e1, e2]
        unfold repRow
        rw [if_pos hp]
        simp
    · have := ih hrs (pre ++ 10 :: r) a cuts f hx2 (by rw [List.length_append]; omega) (fun k q1 q2 => by
          rcases Nat.lt_trichotomy k pre.length with h | h | h
          · exact hn k q1 h
          · rw [h]; exact fun hA => hp (hAt.mp hA)
          · exact hin k h q2) hc hf
      rw [this, List.drop_append_of_le_length ha]
      unfold repRow
      rw [if_neg hp]
      simp
theorem rep_rows (y b : Str) {σ : List Nat} (hy : C y = 10 :: σ) (hσ : 10 ∉ σ) (rs : List (List Nat)) (hr : ∀ r ∈ rs, 10 ∉ r) : rep y b (S (rowsText rs)) = S (rs.flatMap (repRow σ (C b))) := by
  have hy1 : 1 ≤ y.length := by rw [← C_length, hy]; simp
  refine eq_S_of ?_
  unfold rep
  have h0 : Txt.join b (Txt.split (S (rowsText rs)) y) = Str.join b (Txt.split (S (rowsText rs)) y) := StrLaws.glued_eq_join _ _
  rw [h0, split_parts _ _ hy1]
  obtain ⟨f, hc, hf⟩ := StrLaws.occ_tight (S (rowsText rs)) y hy1
  have := rep_go (S (rowsText rs)) y b hy hσ rs hr [] 0 _ f (by rw [C_S]; rfl) (Nat.le_refl _) (fun k _ h => by simp at h) hc hf
  simpa using this
theorem flat_rows {g : List Nat → List Nat} {σ b : List Nat} {rs : List (List Nat)} {k : List Nat → List Nat} (h : ∀ r ∈ rs, repRow σ b (k r) = 10 :: g r) : (rs.map k).flatMap (repRow σ b) = rowsText (rs.map g) := by
  unfold rowsText
  rw [List.flatMap_map, List.flatMap_map]
  induction rs with
  | nil => rfl
  | cons r rs ih =>
    rw [List.flatMap_cons, List.flatMap_cons, h r List.mem_cons_self, ih fun q hq => h q (List.mem_cons_of_mem _ hq)]
theorem rows_ne (l : List Nat) : rows l ≠ [] := by obtain ⟨h, t, e⟩ := lines_ne l; unfold rows; rw [e]; simp
theorem rows_free (l : List Nat) : ∀ r ∈ rows l, 10 ∉ r := by
  intro r hr
  obtain ⟨a, ha, rfl⟩ := List.mem_map.mp hr
  exact fun hm => lines_free l a ha (cut_mem hm)
theorem rep3_back {l : List Nat} : rep3 (Str.ofString "\n" ++ S (comment l)) = S (10 :: joinN (rows l)) := by
  have hnl : ∀ m : List Nat, Str.ofString "\n" ++ S m = S (10 :: m) := fun m => eq_S_of (by rw [C_append, C_S, show C (Str.ofString "\n") = [10] by decide +kernel]; rfl)
  have hne := rows_ne l
  have hfr := rows_free l
  rw [hnl]
  unfold comment
  rw [← rowsText_join (by simpa using hne), ← rowsText_join hne]
  generalize rows l = rs at hne hfr
  have e0 : rowsText (rs.map cm) = rowsText (rs.map cm) := rfl
  unfold rep3
  have c1 : C (Str.ofString "\n# ") = 10 :: [35, 32] := by decide +kernel
  have c2 : C (Str.ofString "\n#") = 10 :: [35] := by decide +kernel
  have c3 : C (Str.ofString "\n!") = 10 :: [33] := by decide +kernel
  have c4 : C (Str.ofString "\n") = [10] := by decide +kernel
  let g1 : List Nat → List Nat := fun r => if r = [] then [35] else 33 :: r
  let g2 : List Nat → List Nat := fun r => if r = [] then [] else 33 :: r
  have s1 : rep (Str.ofString "\n# ") (Str.ofString "\n!") (S (rowsText (rs.map cm))) = S (rowsText (rs.map g1)) := by
    rw [rep_rows _ _ c1 (by decide) _ (by
      intro q hq
      obtain ⟨r, hr, rfl⟩ := List.mem_map.mp hq
      unfold cm
      split
      · decide
      · intro hm; simp at hm; exact hfr r hr hm), c3]
    rw [flat_rows (g := g1)]
    intro r hr
    unfold repRow cm
    by_cases h : r = []
    · simp [h, g1]
    · simp [h, g1]
  have s2 : rep (Str.ofString "\n#") (Str.ofString "\n") (S (rowsText (rs.map g1))) = S (rowsText (rs.map g2)) := by
    rw [rep_rows _ _ c2 (by decide) _ (by
      intro q hq
      obtain ⟨r, hr, rfl⟩ := List.mem_map.mp hq
      by_cases h : r = []
      · simp [h, g1]
      · simp [h, g1]; exact hfr r hr), c4]
    rw [flat_rows (g := g2)]
    intro r hr
    unfold repRow
    by_cases h : r = []
    · simp [h, g1, g2]
    · simp [h, g1, g2]
  have s3 : rep (Str.ofString "\n!") (Str.ofString "\n") (S (rowsText (rs.map g2))) = S (rowsText rs) := by
    rw [rep_rows _ _ c3 (by decide) _ (by
      intro q hq
      obtain ⟨r, hr, rfl⟩ := List.mem_map.mp hq
      by_cases h : r = []
      · simp [h, g2]
      · simp [h, g2]; exact hfr r hr), c4]
    rw [flat_rows (g := fun r => r), List.map_id']
    intro r hr
    unfold repRow
    by_cases h : r = []
    · simp [h, g2]
    · simp [h, g2]
  rw [s1, s2, s3]
theorem join_len_le {a b : Str} (h : b.length ≤ a.length) : ∀ ps : List Str, (Str.join b ps).length ≤ (Str.join a ps).length
  | [] => Nat.le_refl _
  | [p] => Nat.le_refl _
  | p :: q :: r => by
    have e : ∀ z : Str, Str.join z (p :: q :: r) = p ++ z ++ Str.join z (q :: r) := fun z => rfl
    rw [e, e, PySem.Str.length_append, PySem.Str.length_append, PySem.Str.length_append, PySem.Str.length_append]
    have := join_len_le h (q :: r); omega
theorem join_weight {a : Str} (h : 1 ≤ a.length) : ∀ ps : List Str, (ps.map (·.length)).sum + ps.length ≤ (Str.join a ps).length + 1
  | [] => Nat.zero_le _
  | [p] => by show p.length + 0 + 1 ≤ p.length + 1; omega
  | p :: q :: r => by
    have e : Str.join a (p :: q :: r) = p ++ a ++ Str.join a (q :: r) := rfl
    rw [e, PySem.Str.length_append, PySem.Str.length_append, List.map_cons, List.sum_cons, List.length_cons]
    have := join_weight h (q :: r); omega
theorem split_weight (x a : Str) (ha : 1 ≤ a.length) : ((Txt.split x a).map (·.length)).sum + (Txt.split x a).length ≤ x.length + 1 := by
  have := join_weight ha (Txt.split x a)
  rw [StrLaws.join_split] at this; exact this
theorem rep_len {a b x : Str} (ha : 1 ≤ a.length) (hb : b.length ≤ a.length) : (rep a b x).length ≤ x.length := by
  have := join_len_le hb (Txt.split x a)
  rw [StrLaws.join_split] at this
  have e : rep a b x = Str.join b (Txt.split x a) := StrLaws.glued_eq_join _ _
  rw [e]; exact this
end Q
end Mine

namespace Mine
section
variable {prog : Program} {w : World} {A : Around} {E : Value → Shared → Prop} {s : Shared} {h₀ : Heap} {L : Addr} {m : Str → Option Value} {news : List (Addr × Obj)} {Q : Value → Shared → Prop} {t u : Tok}
theorem my_splitG {x a : Str} (hx : x.length ≤ 90000) (ha : (a.length == 0) = false) (hF : Fr h₀ L s.heap m) (hN : News h₀ L s.heap news)
    (h : ∀ D vs h' k, StrsAre vs (Txt.split x a) → Fr h₀ L h' m → News h₀ L h' ((D, listOf vs.toArray 0) :: news) → (∀ p ∈ news, p.1 < D) → Q (.ref D) { s with heap := h', toks := k }) :
    wpAny (model prog w) A (call (.builtin "str.split") [.str x t, .str a u]) Q E s :=
  KSpl.split1 hF hN ha (fun D vs h' k e i F' N' lt => h D _ h' k (by rw [← e]; exact i) F' N' lt) (by rw [PySem.sizeLine_eq]; omega)
theorem my_joinG {x a b : Str} {D : Addr} {vs : List Value} (hl : s.heap.IsList D vs.toArray) (hi : StrsAre vs (Txt.split x a)) (hx : x.length ≤ 90000) (ha : 1 ≤ a.length) (hb : b.length ≤ a.length) (hb4 : b.length ≤ 4)
    (h : ∀ t' k, (rep a b x).length ≤ x.length → Q (.str (rep a b x) t') { s with toks := k }) : wpAny (model prog w) A (call (.builtin "str.join") [.str b t, .ref D]) Q E s := by
  refine join_list hl (ys := Txt.split x a) (by simpa using hi) ?_ (fun t' k => h t' k (Mine.Q.rep_len ha hb))
  have h1 := Mine.Q.split_weight x a ha
  have h2 : (Txt.split x a).length * b.length ≤ (Txt.split x a).length * 4 := Nat.mul_le_mul_left _ hb4
  omega
end
end Mine
namespace Mine
theorem my_tup2 {prog : Program} {w : World} {A : Around} {E : Value → Shared → Prop} {s : Shared} {h₀ : Heap} {L : Addr} {m : Str → Option Value} {news : List (Addr × Obj)} {Q : Value → Shared → Prop} {value slice : PySem.Expr} {t : Addr} {a b : Value} {r : List Value} {u : Tok}
    (F : Fr h₀ L s.heap m) (N : News h₀ L s.heap news) (hm : (t, ({ cls := .type "tuple", data := .seq (a :: b :: r).toArray } : Obj)) ∈ news) (hr : r.length ≤ 100)
    (h : ∀ D h', Fr h₀ L h' m → News h₀ L h' ((D, ({ cls := .type "tuple", data := .seq r.toArray } : Obj)) :: news) → (∀ p ∈ news, p.1 < D) → Q (.ref D) { s with heap := h' })
    (hs : subscripted slice false (.ref t) (.ref s.heap.objs.size) = operate [.ref s.heap.objs.size, .ref t] (getItem (.ref t) (.ref s.heap.objs.size)))
    (hg : ∀ r, letTemporaryGo value (.ref t) r = pure ()) :
    wpAny (model prog w) A (subscriptTail value slice (.ref t) (.ref s.heap.objs.size)) Q E { s with heap := s.heap.push { cls := .type "slice", data := .fields #[.int 2 u, .none, .none] } } := by
  have ht : IsTup s.heap t (a :: b :: r).toArray := ⟨_, (N _ hm).1, rfl, _, rfl⟩
  refine slice_tuple_from (a := 2) F N ht (by omega) (by simp) (fun h' F' N' => ?_) hs hg (by rw [PySem.sizeLine_eq]; simp only [List.size_toArray, List.length_cons]; omega)
  exact h _ h' F' N' fun p hp => Nat.lt_succ_of_lt (Heap.lt_size (N p hp).1)
end Mine

namespace Mine
section
local macro_rules | `(tactic| walk_at "mine enter") => `(tactic| (refine wpAny_call ?_; k_dflt cell_enter))
local macro_rules | `(tactic| walk_at "mine enterC") => `(tactic| (refine wpAny_call ?_; k_dflt (refine' code_defC ?k1 ?k2 ?k3 ?k4 ?k5 ?kA ?kF ?kK ?k6 ?k7 ?k8 ?k9 ?kB ?kD ?_ ?c2 ?c3 ?c4; (case kA => exact rfl); (case kF => exact rfl); (case kK => assumption); (case k1 => k_asm); (case k2 => k_asm); (case k3 => k_asm); (case k4 => k_asm); (case k5 => k_asm); (case k6 => k_is); (case k7 => k_is); (case k8 => ktr_room); (case k9 => exact BindsTo.of_eq rfl); (case kB => exact rfl); (case kD => decide +kernel); (case c2 => exact rfl); (case c3 => exact rfl); (case c4 => exact rfl); k_whole; intro g' L' h' tk' cells' FG' F' N' Y' B' X' T' l1; (try k_lt l1); k_cells Y'; (try simp only [List.cons_append, List.nil_append] at N'); (try dsimp only); (try k_lift B'); (try k_fold))))
local macro_rules | `(tactic| walk_at "CompSrcT") => `(tactic| k_extra "CompSrcT")
local macro_rules | `(tactic| walk_at "CompSrc") => `(tactic| k_extra "CompSrc")
local macro_rules | `(tactic| walk_at "CompEnd") => `(tactic| k_extra "CompEnd")
local macro_rules | `(tactic| walk_at "KPfDone") => `(tactic| k_extra "KPfDone")
local macro_rules | `(tactic| walk_at "call ref") => `(tactic| k_extra "call ref")
local macro_rules | `(tactic| walk_at "eval ListComp") => `(tactic| k_extra "eval ListComp")
theorem c_solid (w : World) (x : Str) (t : Tok) (hx : x.length ≤ 100000) : Gives w 52 1 [.str x t] (fun _ => True) (OutI (solid (C x))) := by
  k_with_none
  k_with "CompSrcT" => (k_dflt (refine LCt.CompSrcT.range (by rfl) (by k_asm) (by k_asm) (by assumption) (by first | decide | exact small_one (by l_bnd) (by l_bnd) (by l_bnd) (by l_bnd)) (by first | exact rangeSize_nat _ _ | rfl) (by rw [PySem.sizeLine_eq]; omega) ?_; intro g'; (refine' kci_range (solidG (C x)) (fun k' t' I' oI' C' oC' D' m' ys' l' h' tk' E' hlo' hhi' hI' hC' hx' F' N' off' ne' => ?_) ?_ (solid_grows _)); (all_goals (try ((show KPfMark → _); intro hMark'))); kcf_last))
  k_with "CompEnd" => (k_dflt (first
    | (refine LCg.CompEnd.intro (by assumption) (by assumption) _ (fun p hp => hp) (by assumption) True.intro ?_; exact ⟨rfl, _, _, rfl, solid_yes (by assumption) (by assumption) (by assumption)⟩)
    | (refine LCg.CompEnd.intro (by assumption) (by assumption) _ (fun p hp => hp) (by assumption) True.intro ?_; exact ⟨rfl, solid_no (by assumption) (by assumption) (by assumption)⟩)))
  unfold Gives; k_fill
  intro mean mg mb dp un gd cn cs a ccd cl outer A₀ base h₀ L m news s Q E B F X N T hk hd hu hpre hret
  walk_at "mine enterC"
  k_steps
  exact endOne hret (by assumption) (by assumption) (by kcf_all) (And.right (by assumption)) ⟨_, _, rfl, rfl, solid_end (by assumption)⟩
end
end Mine

namespace Mine
section
local macro_rules | `(tactic| walk_at "mine enter") => `(tactic| (refine wpAny_call ?_; k_dflt cell_enter))
local macro_rules | `(tactic| walk_at "mine enterC") => `(tactic| (refine wpAny_call ?_; k_dflt (refine' code_defC ?k1 ?k2 ?k3 ?k4 ?k5 ?kA ?kF ?kK ?k6 ?k7 ?k8 ?k9 ?kB ?kD ?_ ?c2 ?c3 ?c4; (case kA => exact rfl); (case kF => exact rfl); (case kK => assumption); (case k1 => k_asm); (case k2 => k_asm); (case k3 => k_asm); (case k4 => k_asm); (case k5 => k_asm); (case k6 => k_is); (case k7 => k_is); (case k8 => ktr_room); (case k9 => exact BindsTo.of_eq rfl); (case kB => exact rfl); (case kD => decide +kernel); (case c2 => exact rfl); (case c3 => exact rfl); (case c4 => exact rfl); k_whole; intro g' L' h' tk' cells' FG' F' N' Y' B' X' T' l1; (try k_lt l1); k_cells Y'; (try simp only [List.cons_append, List.nil_append] at N'); (try dsimp only); (try k_lift B'); (try k_fold))))
local macro_rules | `(tactic| walk_at "CompSrcT") => `(tactic| k_extra "CompSrcT")
local macro_rules | `(tactic| walk_at "CompSrc") => `(tactic| k_extra "CompSrc")
local macro_rules | `(tactic| walk_at "CompEnd") => `(tactic| k_extra "CompEnd")
local macro_rules | `(tactic| walk_at "KPfDone") => `(tactic| k_extra "KPfDone")
local macro_rules | `(tactic| walk_at "call ref") => `(tactic| k_extra "call ref")
local macro_rules | `(tactic| walk_at "eval ListComp") => `(tactic| k_extra "eval ListComp")
local macro_rules | `(tactic| walk_at "mine call") => `(tactic| (
  (case k1 => first | k_asm | fail "B")
  (case k2 => first | k_asm | fail "F")
  (case k3 => first | k_asm | fail "X")
  (case k4 => first | k_asm | fail "N")
  (case k5 => first | k_asm | fail "T")
  (case kK => first | exact rfl | assumption | fail "K")
  (case kd => first | ktr_room | fail "room")
  (case ku => first | ktr_units | fail "units")
  (case kp => first | exact True.intro | fail "pre")))
theorem c_cut (w : World) (x : Str) (t : Tok) (hx : x.length ≤ 100000) : Gives w 59 2 [.str x t] (fun _ => True) (OutS (S (cut (C x)))) := by
  k_with_none
  k_with "call ref" => (k_here; (with_reducible show wpAny _ _ (call (Value.ref 52) [Value.str _ _]) _ _ _); k_dflt (refine' useI (c_solid w x _ hx) ?k1 ?k2 ?k3 ?k4 ?k5 ?kK ?kd ?ku ?kp ?_; walk_at "mine call"; intro D9 vs9 h9 tk9 F9 N9 o9 i9; (have l9 := solid_len' x); (try dsimp only); (try k_fold)))
  unfold Gives; k_fill
  intro mean mg mb dp un gd cn cs a ccd cl outer A₀ base h₀ L m news s Q E B F X N T hk hd hu hpre hret
  walk_at "mine enter"
  k_steps
  · exact endS hret (by assumption) (by assumption) (by kcf_all) (cut_slice (by assumption))
  · exact endS hret (by assumption) (by assumption) (by kcf_all) (cut_none (by assumption))
end
end Mine

namespace Mine
section
local macro_rules | `(tactic| walk_at "mine enter") => `(tactic| (refine wpAny_call ?_; k_dflt cell_enter))
local macro_rules | `(tactic| walk_at "mine enterC") => `(tactic| (refine wpAny_call ?_; k_dflt (refine' code_defC ?k1 ?k2 ?k3 ?k4 ?k5 ?kA ?kF ?kK ?k6 ?k7 ?k8 ?k9 ?kB ?kD ?_ ?c2 ?c3 ?c4; (case kA => exact rfl); (case kF => exact rfl); (case kK => assumption); (case k1 => k_asm); (case k2 => k_asm); (case k3 => k_asm); (case k4 => k_asm); (case k5 => k_asm); (case k6 => k_is); (case k7 => k_is); (case k8 => ktr_room); (case k9 => exact BindsTo.of_eq rfl); (case kB => exact rfl); (case kD => decide +kernel); (case c2 => exact rfl); (case c3 => exact rfl); (case c4 => exact rfl); k_whole; intro g' L' h' tk' cells' FG' F' N' Y' B' X' T' l1; (try k_lt l1); k_cells Y'; (try simp only [List.cons_append, List.nil_append] at N'); (try dsimp only); (try k_lift B'); (try k_fold))))
local macro_rules | `(tactic| walk_at "CompSrcT") => `(tactic| k_extra "CompSrcT")
local macro_rules | `(tactic| walk_at "CompSrc") => `(tactic| k_extra "CompSrc")
local macro_rules | `(tactic| walk_at "CompEnd") => `(tactic| k_extra "CompEnd")
local macro_rules | `(tactic| walk_at "KPfDone") => `(tactic| k_extra "KPfDone")
local macro_rules | `(tactic| walk_at "call ref") => `(tactic| k_extra "call ref")
local macro_rules | `(tactic| walk_at "eval ListComp") => `(tactic| k_extra "eval ListComp")
local macro_rules | `(tactic| walk_at "mine call") => `(tactic| (
  (case k1 => first | k_asm | fail "B")
  (case k2 => first | k_asm | fail "F")
  (case k3 => first | k_asm | fail "X")
  (case k4 => first | k_asm | fail "N")
  (case k5 => first | k_asm | fail "T")
  (case kK => first | exact rfl | assumption | fail "K")
  (case kd => first | ktr_room | fail "room")
  (case ku => first | ktr_units | fail "units")
  (case kp => first | exact True.intro | fail "pre")))
theorem c_bare (w : World) (x : Str) (t : Tok) (hx : x.length ≤ 100000) : Gives w 78 2 [.str x t] (fun _ => True) (OutS (S (bare (C x)))) := by
  k_with_none
  k_with "call ref" => (k_here; (with_reducible show wpAny _ _ (call (Value.ref 52) [Value.str _ _]) _ _ _); k_dflt (refine' useI (c_solid w x _ hx) ?k1 ?k2 ?k3 ?k4 ?k5 ?kK ?kd ?ku ?kp ?_; walk_at "mine call"; intro D9 vs9 h9 tk9 F9 N9 o9 i9; (have l9 := solid_len' x); (try dsimp only); (try k_fold)))
  unfold Gives; k_fill
  intro mean mg mb dp un gd cn cs a ccd cl outer A₀ base h₀ L m news s Q E B F X N T hk hd hu hpre hret
  walk_at "mine enter"
  k_steps
  · exact endS hret (by assumption) (by assumption) (by kcf_all) (bare_slice (by assumption))
  · exact endS hret (by assumption) (by assumption) (by kcf_all) (bare_none (by assumption))
end
end Mine

namespace Mine
section
local macro_rules | `(tactic| walk_at "mine enter") => `(tactic| (refine wpAny_call ?_; k_dflt cell_enter))
local macro_rules | `(tactic| walk_at "mine enterC") => `(tactic| (refine wpAny_call ?_; k_dflt (refine' code_defC ?k1 ?k2 ?k3 ?k4 ?k5 ?kA ?kF ?kK ?k6 ?k7 ?k8 ?k9 ?kB ?kD ?_ ?c2 ?c3 ?c4; (case kA => exact rfl); (case kF => exact rfl); (case kK => assumption); (case k1 => k_asm); (case k2 => k_asm); (case k3 => k_asm); (case k4 => k_asm); (case k5 => k_asm); (case k6 => k_is); (case k7 => k_is); (case k8 => ktr_room); (case k9 => exact BindsTo.of_eq rfl); (case kB => exact rfl); (case kD => decide +kernel); (case c2 => exact rfl); (case c3 => exact rfl); (case c4 => exact rfl); k_whole; intro g' L' h' tk' cells' FG' F' N' Y' B' X' T' l1; (try k_lt l1); k_cells Y'; (try simp only [List.cons_append, List.nil_append] at N'); (try dsimp only); (try k_lift B'); (try k_fold))))
local macro_rules | `(tactic| walk_at "CompSrcT") => `(tactic| k_extra "CompSrcT")
local macro_rules | `(tactic| walk_at "CompSrc") => `(tactic| k_extra "CompSrc")
local macro_rules | `(tactic| walk_at "CompEnd") => `(tactic| k_extra "CompEnd")
local macro_rules | `(tactic| walk_at "KPfDone") => `(tactic| k_extra "KPfDone")
local macro_rules | `(tactic| walk_at "call ref") => `(tactic| k_extra "call ref")
local macro_rules | `(tactic| walk_at "eval ListComp") => `(tactic| k_extra "eval ListComp")
local macro_rules | `(tactic| walk_at "mine call") => `(tactic| (
  (case k1 => first | k_asm | fail "B")
  (case k2 => first | k_asm | fail "F")
  (case k3 => first | k_asm | fail "X")
  (case k4 => first | k_asm | fail "N")
  (case k5 => first | k_asm | fail "T")
  (case kK => first | exact rfl | assumption | fail "K")
  (case kd => first | ktr_room | fail "room")
  (case ku => first | ktr_units | fail "units")
  (case kp => first | exact True.intro | fail "pre")))
theorem c_name (w : World) (x : Str) (t : Tok) (hx : x.length ≤ 100000) : Gives w 92 1 [.str x t] (fun _ => True) (OutS (S (name (C x)))) := by
  k_with_none
  k_with "pyIter str" => (k_state (fun pre hand => NameInv pre hand ∧ hand.length ≤ pre.length) "hand")
  k_with "state" => (first | exact name_start | exact name_dot (by assumption) (by assumption) (by assumption) (by assumption) | exact name_add (by assumption) (by assumption) (by assumption) (by assumption))
  unfold Gives; k_fill
  intro mean mg mb dp un gd cn cs a ccd cl outer A₀ base h₀ L m news s Q E B F X N T hk hd hu hpre hret
  walk_at "mine enter"
  k_steps
  · exact endS hret (by assumption) (by assumption) (by kcf_all) (name_brk (by assumption) (by assumption) (by assumption) (by assumption))
  · exact endS hret (by assumption) (by assumption) (by kcf_all) (name_done (by assumption))
end
end Mine

namespace Mine
section
local macro_rules | `(tactic| walk_at "mine enter") => `(tactic| (refine wpAny_call ?_; k_dflt cell_enter))
local macro_rules | `(tactic| walk_at "mine enterC") => `(tactic| (refine wpAny_call ?_; k_dflt (refine' code_defC ?k1 ?k2 ?k3 ?k4 ?k5 ?kA ?kF ?kK ?k6 ?k7 ?k8 ?k9 ?kB ?kD ?_ ?c2 ?c3 ?c4; (case kA => exact rfl); (case kF => exact rfl); (case kK => assumption); (case k1 => k_asm); (case k2 => k_asm); (case k3 => k_asm); (case k4 => k_asm); (case k5 => k_asm); (case k6 => k_is); (case k7 => k_is); (case k8 => ktr_room); (case k9 => exact BindsTo.of_eq rfl); (case kB => exact rfl); (case kD => decide +kernel); (case c2 => exact rfl); (case c3 => exact rfl); (case c4 => exact rfl); k_whole; intro g' L' h' tk' cells' FG' F' N' Y' B' X' T' l1; (try k_lt l1); k_cells Y'; (try simp only [List.cons_append, List.nil_append] at N'); (try dsimp only); (try k_lift B'); (try k_fold))))
local macro_rules | `(tactic| walk_at "CompSrcT") => `(tactic| k_extra "CompSrcT")
local macro_rules | `(tactic| walk_at "CompSrc") => `(tactic| k_extra "CompSrc")
local macro_rules | `(tactic| walk_at "CompEnd") => `(tactic| k_extra "CompEnd")
local macro_rules | `(tactic| walk_at "KPfDone") => `(tactic| k_extra "KPfDone")
local macro_rules | `(tactic| walk_at "call ref") => `(tactic| k_extra "call ref")
local macro_rules | `(tactic| walk_at "eval ListComp") => `(tactic| k_extra "eval ListComp")
local macro_rules | `(tactic| walk_at "mine call") => `(tactic| (
  (case k1 => first | k_asm | fail "B")
  (case k2 => first | k_asm | fail "F")
  (case k3 => first | k_asm | fail "X")
  (case k4 => first | k_asm | fail "N")
  (case k5 => first | k_asm | fail "T")
  (case kK => first | exact rfl | assumption | fail "K")
  (case kd => first | ktr_room | fail "room")
  (case ku => first | ktr_units | fail "units")
  (case kp => first | exact True.intro | fail "pre")))
local macro_rules | `(tactic| walk_at "mine off") => `(tactic| first | assumption | exact off_of_lt (by assumption) | exact off_of_allLt (by assumption) | exact And.right (by assumption) | exact off_of_allLt (And.right (by assumption)) | exact off_of_allLt (And.right (And.right (by assumption))))
local macro_rules | `(tactic| walk_at "exec For Name BinOp cons nil") => `(tactic| (k_here; (rename Fr _ _ _ _ => lF'); (with_unfolding_all refine' For_invVF lF' ?k1 ?k2 ?_; (case k1 => exact rfl); (case k2 => exact rfl); k_whole)))
local macro_rules | `(tactic| kst_facts1) => `(tactic| exact PyProof.Rows.StrsAre.nil)
local macro_rules | `(tactic| kst_facts1) => `(tactic| exact PyProof.Rows.StrsAre.append' (by assumption) (.cons _ _ .nil))
theorem c_rows (w : World) (x : Str) (t : Tok) (hx : x.length ≤ 90000) : Gives w 66 3 [.str x t] (fun _ => True) (OutL ((rows (C x)).map S)) := by
  k_with_none
  k_with "call ref" => (k_here; (with_reducible show wpAny _ _ (call (Value.ref 59) [Value.str _ _]) _ _ _); k_dflt (refine' useS (c_cut w _ _ (by omega)) ?k1 ?k2 ?k3 ?k4 ?k5 ?kK ?kd ?ku ?kp ?_; walk_at "mine call"; intro t9 h9 tk9 F9 N9; (try dsimp only); (try k_fold)))
  k_with "pyIter str" => ((have hb9 : (x ++ Str.ofString "\n").length ≤ 90001 := nl_len hx); (generalize hy9 : x ++ Str.ofString "\n" = y9 at *); k_state (fun pre rs row => RowsInv pre rs row ∧ row.length ≤ pre.length ∧ rs.length ≤ pre.length) "rows$" "row")
  k_with "state" => (first | exact rows_start | exact rows_nl (by assumption) (by assumption) (by assumption) | exact rows_ch (by assumption) (by assumption) (by assumption) (by assumption))
  unfold Gives; k_fill
  intro mean mg mb dp un gd cn cs a ccd cl outer A₀ base h₀ L m news s Q E B F X N T hk hd hu hpre hret
  walk_at "mine enter"
  k_steps
  exact endOne hret (by assumption) (by assumption) (by kcf_all) (by walk_at "mine off") ⟨_, _, _, rfl, rfl, rows_end hy9 (by assumption) (by assumption)⟩
end
end Mine

namespace Mine
section
local macro_rules | `(tactic| walk_at "mine enter") => `(tactic| (refine wpAny_call ?_; k_dflt cell_enter))
local macro_rules | `(tactic| walk_at "mine enterC") => `(tactic| (refine wpAny_call ?_; k_dflt (refine' code_defC ?k1 ?k2 ?k3 ?k4 ?k5 ?kA ?kF ?kK ?k6 ?k7 ?k8 ?k9 ?kB ?kD ?_ ?c2 ?c3 ?c4; (case kA => exact rfl); (case kF => exact rfl); (case kK => assumption); (case k1 => k_asm); (case k2 => k_asm); (case k3 => k_asm); (case k4 => k_asm); (case k5 => k_asm); (case k6 => k_is); (case k7 => k_is); (case k8 => ktr_room); (case k9 => exact BindsTo.of_eq rfl); (case kB => exact rfl); (case kD => decide +kernel); (case c2 => exact rfl); (case c3 => exact rfl); (case c4 => exact rfl); k_whole; intro g' L' h' tk' cells' FG' F' N' Y' B' X' T' l1; (try k_lt l1); k_cells Y'; (try simp only [List.cons_append, List.nil_append] at N'); (try dsimp only); (try k_lift B'); (try k_fold))))
local macro_rules | `(tactic| walk_at "CompSrcT") => `(tactic| k_extra "CompSrcT")
local macro_rules | `(tactic| walk_at "CompSrc") => `(tactic| k_extra "CompSrc")
local macro_rules | `(tactic| walk_at "CompEnd") => `(tactic| k_extra "CompEnd")
local macro_rules | `(tactic| walk_at "KPfDone") => `(tactic| k_extra "KPfDone")
local macro_rules | `(tactic| walk_at "call ref") => `(tactic| k_extra "call ref")
local macro_rules | `(tactic| walk_at "eval ListComp") => `(tactic| k_extra "eval ListComp")
local macro_rules | `(tactic| walk_at "mine call") => `(tactic| (
  (case k1 => first | k_asm | fail "B")
  (case k2 => first | k_asm | fail "F")
  (case k3 => first | k_asm | fail "X")
  (case k4 => first | k_asm | fail "N")
  (case k5 => first | k_asm | fail "T")
  (case kK => first | exact rfl | assumption | fail "K")
  (case kd => first | ktr_room | fail "room")
  (case ku => first | ktr_units | fail "units")
  (case kp => first | exact True.intro | fail "pre")))
local macro_rules | `(tactic| walk_at "mine off") => `(tactic| first | assumption | exact off_of_lt (by assumption) | exact off_of_allLt (by assumption) | exact And.right (by assumption) | exact off_of_allLt (And.right (by assumption)) | exact off_of_allLt (And.right (And.right (by assumption))))
local macro_rules | `(tactic| walk_at "mine comp") => `(tactic| (k_here; k_dflt (refine LCg.ListComp_U (F₀ := by k_asm) (by with_unfolding_all rfl) (by decide) (by rfl) (by decide) (by rfl) ?_)))
local macro_rules | `(tactic| walk_at "mine size") => `(tactic| (rw [PySem.sizeLine_eq]; (have hq9 := strs_len (by assumption)); (simp only [List.size_toArray]); omega))
local macro_rules | `(tactic| walk_at "call builtin:str.join") => `(tactic| k_extra "call builtin:str.join")
theorem c_comment (w : World) (x : Str) (t : Tok) (hx : x.length ≤ 3000) : Gives w 71 4 [.str x t] (fun _ => True) (OutS (S (comment (C x)))) := by
  k_with_none
  k_with "call ref" => (k_here; (with_reducible show wpAny _ _ (call (Value.ref 66) [Value.str _ _]) _ _ _); k_dflt (refine' useL (c_rows w _ _ (by omega)) ?k1 ?k2 ?k3 ?k4 ?k5 ?kK ?kd ?ku ?kp ?_; walk_at "mine call"; intro D9 vs9 n9 h9 tk9 F9 N9 o9 i9; (have c9 := rows_count x); (have e9 := rows_each x); (try dsimp only); (try k_fold)))
  k_with "eval ListComp" => (walk_at "mine comp")
  k_with "CompSrc" => (k_here; k_dflt (refine LCg.CompSrc.ledger (by rfl) (by k_asm) (by k_asm) (by k_mem) (by walk_at "mine size") ?_; intro g9; (refine' ms_rest (fun r => S (cm (C r))) (by assumption) (fun k' t' I' oI' C' oC' D' m' ys' h' tk' E' hk' hC' hx' F' N' off' ne' hM' => ?_) (fun ys8 hy8 => ?_)); (all_goals (try (have hz9 := e9 _ hk'))); kcf_last))
  k_with "CompEnd" => (k_dflt (first
    | (refine LCg.CompEnd.intro (by assumption) (by assumption) _ (fun p hp => hp) (by assumption) (Or.inr ⟨_, by k_mem, rfl, _, rfl⟩) ?_; exact ms_el (cm_some (by assumption)))
    | (refine LCg.CompEnd.intro (by assumption) (by assumption) _ (fun p hp => hp) (by assumption) (Or.inr ⟨_, by k_mem, rfl, _, rfl⟩) ?_; exact ms_el (cm_none (by assumption)))))
  k_with "call builtin:str.join" => (k_here; k_dflt (refine my_join 3002 3001 (News.isList (by k_asm) (by k_mem)) hy8 (fun y hy => Nat.le_trans (cms_each e9 y hy) (by omega)) (by rw [List.length_map]; omega) (by omega) ?_; intro t8 k8; (try dsimp only)))
  unfold Gives; k_fill
  intro mean mg mb dp un gd cn cs a ccd cl outer A₀ base h₀ L m news s Q E B F X N T hk hd hu hpre hret
  walk_at "mine enter"
  k_steps
  exact endS hret (by assumption) (by assumption) (by kcf_all) (comment_end x)
end
end Mine

namespace Mine
section
local macro_rules | `(tactic| walk_at "mine enter") => `(tactic| (refine wpAny_call ?_; k_dflt cell_enter))
local macro_rules | `(tactic| walk_at "mine enterC") => `(tactic| (refine wpAny_call ?_; k_dflt (refine' code_defC ?k1 ?k2 ?k3 ?k4 ?k5 ?kA ?kF ?kK ?k6 ?k7 ?k8 ?k9 ?kB ?kD ?_ ?c2 ?c3 ?c4; (case kA => exact rfl); (case kF => exact rfl); (case kK => assumption); (case k1 => k_asm); (case k2 => k_asm); (case k3 => k_asm); (case k4 => k_asm); (case k5 => k_asm); (case k6 => k_is); (case k7 => k_is); (case k8 => ktr_room); (case k9 => exact BindsTo.of_eq rfl); (case kB => exact rfl); (case kD => decide +kernel); (case c2 => exact rfl); (case c3 => exact rfl); (case c4 => exact rfl); k_whole; intro g' L' h' tk' cells' FG' F' N' Y' B' X' T' l1; (try k_lt l1); k_cells Y'; (try simp only [List.cons_append, List.nil_append] at N'); (try dsimp only); (try k_lift B'); (try k_fold))))
local macro_rules | `(tactic| walk_at "CompSrcT") => `(tactic| k_extra "CompSrcT")
local macro_rules | `(tactic| walk_at "CompSrc") => `(tactic| k_extra "CompSrc")
local macro_rules | `(tactic| walk_at "CompEnd") => `(tactic| k_extra "CompEnd")
local macro_rules | `(tactic| walk_at "KPfDone") => `(tactic| k_extra "KPfDone")
local macro_rules | `(tactic| walk_at "call ref") => `(tactic| k_extra "call ref")
local macro_rules | `(tactic| walk_at "eval ListComp") => `(tactic| k_extra "eval ListComp")
local macro_rules | `(tactic| walk_at "mine call") => `(tactic| (
  (case k1 => first | k_asm | fail "B")
  (case k2 => first | k_asm | fail "F")
  (case k3 => first | k_asm | fail "X")
  (case k4 => first | k_asm | fail "N")
  (case k5 => first | k_asm | fail "T")
  (case kK => first | exact rfl | assumption | fail "K")
  (case kd => first | ktr_room | fail "room")
  (case ku => first | ktr_units | fail "units")
  (case kp => first | exact True.intro | fail "pre")))
local macro_rules | `(tactic| walk_at "mine off") => `(tactic| first | assumption | exact off_of_lt (by assumption) | exact off_of_allLt (by assumption) | exact And.right (by assumption) | exact off_of_allLt (And.right (by assumption)) | exact off_of_allLt (And.right (And.right (by assumption))))
theorem c_comment_line (w : World) (x : Str) (t : Tok) (hx : x.length ≤ 100000) (hg : Good (C x)) : Gives w 35 1 [.str x t] (fun _ => True) (OutS (S (cm (cut (C x))))) := by
  k_with_none
  unfold Gives; k_fill
  intro mean mg mb dp un gd cn cs a ccd cl outer A₀ base h₀ L m news s Q E B F X N T hk hd hu hpre hret
  walk_at "mine enter"
  k_steps
  · exact endS hret (by assumption) (by assumption) (by kcf_all) ((cm_some (by assumption)).trans (by rw [rstrip_good hg, C_S]))
  · exact endS hret (by assumption) (by assumption) (by kcf_all) ((cm_none (by assumption)).trans (by rw [rstrip_good hg, C_S]))
end
end Mine

namespace Mine
section
local macro_rules | `(tactic| walk_at "mine enter") => `(tactic| (refine wpAny_call ?_; k_dflt cell_enter))
local macro_rules | `(tactic| walk_at "mine enterC") => `(tactic| (refine wpAny_call ?_; k_dflt (refine' code_defC ?k1 ?k2 ?k3 ?k4 ?k5 ?kA ?kF ?kK ?k6 ?k7 ?k8 ?k9 ?kB ?kD ?_ ?c2 ?c3 ?c4; (case kA => exact rfl); (case kF => exact rfl); (case kK => assumption); (case k1 => k_asm); (case k2 => k_asm); (case k3 => k_asm); (case k4 => k_asm); (case k5 => k_asm); (case k6 => k_is); (case k7 => k_is); (case k8 => ktr_room); (case k9 => exact BindsTo.of_eq rfl); (case kB => exact rfl); (case kD => decide +kernel); (case c2 => exact rfl); (case c3 => exact rfl); (case c4 => exact rfl); k_whole; intro g' L' h' tk' cells' FG' F' N' Y' B' X' T' l1; (try k_lt l1); k_cells Y'; (try simp only [List.cons_append, List.nil_append] at N'); (try dsimp only); (try k_lift B'); (try k_fold))))
local macro_rules | `(tactic| walk_at "CompSrcT") => `(tactic| k_extra "CompSrcT")
local macro_rules | `(tactic| walk_at "CompSrc") => `(tactic| k_extra "CompSrc")
local macro_rules | `(tactic| walk_at "CompEnd") => `(tactic| k_extra "CompEnd")
local macro_rules | `(tactic| walk_at "KPfDone") => `(tactic| k_extra "KPfDone")
local macro_rules | `(tactic| walk_at "call ref") => `(tactic| k_extra "call ref")
local macro_rules | `(tactic| walk_at "eval ListComp") => `(tactic| k_extra "eval ListComp")
local macro_rules | `(tactic| walk_at "mine call") => `(tactic| (
  (case k1 => first | k_asm | fail "B")
  (case k2 => first | k_asm | fail "F")
  (case k3 => first | k_asm | fail "X")
  (case k4 => first | k_asm | fail "N")
  (case k5 => first | k_asm | fail "T")
  (case kK => first | exact rfl | assumption | fail "K")
  (case kd => first | ktr_room | fail "room")
  (case ku => first | ktr_units | fail "units")
  (case kp => first | exact True.intro | fail "pre")))
local macro_rules | `(tactic| walk_at "mine off") => `(tactic| first | assumption | exact off_of_lt (by assumption) | exact off_of_allLt (by assumption) | exact And.right (by assumption) | exact off_of_allLt (And.right (by assumption)) | exact off_of_allLt (And.right (And.right (by assumption))))
theorem c_pair (w : World) (x : Str) (t : Tok) (hx : x.length ≤ 90000) : Gives w 85 3 [.str x t] (fun _ => True) (OutP (S (pair (C x)).1) (S (pair (C x)).2)) := by
  k_with_none
  k_with "call ref" => (k_here; (with_reducible show wpAny _ _ (call (Value.ref 78) [Value.str _ _]) _ _ _); k_dflt (refine' useS (c_bare w x _ (by omega)) ?k1 ?k2 ?k3 ?k4 ?k5 ?kK ?kd ?ku ?kp ?_; walk_at "mine call"; intro t9 h9 tk9 F9 N9; (have l9 := bareS_len hx); (try dsimp only); (try k_fold)))
  k_with "call ref" => (k_here; (with_reducible show wpAny _ _ (call (Value.ref 59) [Value.str _ _]) _ _ _); k_dflt (refine' useS (c_cut w _ _ (Nat.le_trans (part2_len _) (by omega))) ?k1 ?k2 ?k3 ?k4 ?k5 ?kK ?kd ?ku ?kp ?_; walk_at "mine call"; intro t9 h9 tk9 F9 N9; (have l8 := cutS_len (part2_len (bare (C x)))); (try dsimp only); (try k_fold)))
  unfold Gives; k_fill
  intro mean mg mb dp un gd cn cs a ccd cl outer A₀ base h₀ L m news s Q E B F X N T hk hd hu hpre hret
  walk_at "mine enter"
  k_steps
  · exact endP hret (by assumption) (by assumption) (by kcf_all) (by walk_at "mine off") (pair_a (by assumption))
  · exact endP hret (by assumption) (by assumption) (by kcf_all) (by walk_at "mine off") (pair_b (by assumption) (by assumption))
  · exact endP hret (by assumption) (by assumption) (by kcf_all) (by walk_at "mine off") (pair_c (by assumption) (by assumption))
end
end Mine

namespace Mine
section
local macro_rules | `(tactic| walk_at "mine enter") => `(tactic| (refine wpAny_call ?_; k_dflt cell_enter))
local macro_rules | `(tactic| walk_at "mine enterC") => `(tactic| (refine wpAny_call ?_; k_dflt (refine' code_defC ?k1 ?k2 ?k3 ?k4 ?k5 ?kA ?kF ?kK ?k6 ?k7 ?k8 ?k9 ?kB ?kD ?_ ?c2 ?c3 ?c4; (case kA => exact rfl); (case kF => exact rfl); (case kK => assumption); (case k1 => k_asm); (case k2 => k_asm); (case k3 => k_asm); (case k4 => k_asm); (case k5 => k_asm); (case k6 => k_is); (case k7 => k_is); (case k8 => ktr_room); (case k9 => exact BindsTo.of_eq rfl); (case kB => exact rfl); (case kD => decide +kernel); (case c2 => exact rfl); (case c3 => exact rfl); (case c4 => exact rfl); k_whole; intro g' L' h' tk' cells' FG' F' N' Y' B' X' T' l1; (try k_lt l1); k_cells Y'; (try simp only [List.cons_append, List.nil_append] at N'); (try dsimp only); (try k_lift B'); (try k_fold))))
local macro_rules | `(tactic| walk_at "CompSrcT") => `(tactic| k_extra "CompSrcT")
local macro_rules | `(tactic| walk_at "CompSrc") => `(tactic| k_extra "CompSrc")
local macro_rules | `(tactic| walk_at "CompEnd") => `(tactic| k_extra "CompEnd")
local macro_rules | `(tactic| walk_at "KPfDone") => `(tactic| k_extra "KPfDone")
local macro_rules | `(tactic| walk_at "call ref") => `(tactic| k_extra "call ref")
local macro_rules | `(tactic| walk_at "eval ListComp") => `(tactic| k_extra "eval ListComp")
local macro_rules | `(tactic| walk_at "mine call") => `(tactic| (
  (case k1 => first | k_asm | fail "B")
  (case k2 => first | k_asm | fail "F")
  (case k3 => first | k_asm | fail "X")
  (case k4 => first | k_asm | fail "N")
  (case k5 => first | k_asm | fail "T")
  (case kK => first | exact rfl | assumption | fail "K")
  (case kd => first | ktr_room | fail "room")
  (case ku => first | ktr_units | fail "units")
  (case kp => first | exact True.intro | fail "pre")))
local macro_rules | `(tactic| walk_at "mine off") => `(tactic| first | assumption | exact off_of_lt (by assumption) | exact off_of_allLt (by assumption) | exact And.right (by assumption) | exact off_of_allLt (And.right (by assumption)) | exact off_of_allLt (And.right (And.right (by assumption))))
local macro_rules | `(tactic| walk_at "call builtin:str.join") => `(tactic| k_extra "call builtin:str.join")
local macro_rules | `(tactic| walk_at "call builtin:str.strip") => `(tactic| k_extra "call builtin:str.strip")
local macro_rules | `(tactic| walk_at "call builtin:str.split") => `(tactic| k_extra "call builtin:str.split")
local macro_rules | `(tactic| walk_at "call builtin:str.rstrip") => `(tactic| k_extra "call builtin:str.rstrip")
local macro_rules | `(tactic| walk_at "call builtin:len") => `(tactic| k_extra "call builtin:len")
local macro_rules | `(tactic| walk_at "subscriptTail Name Constant ref int") => `(tactic| k_extra "subscriptTail Name Constant ref int")
local macro_rules | `(tactic| walk_at "subscriptTail Name Slice ref ref") => `(tactic| k_extra "subscriptTail Name Slice ref ref")
local macro_rules | `(tactic| walk_at "mine slice2") => `(tactic| (k_here; k_dflt (refine' kmk_slice_lit ?F ?N ?l ?p ?q (slice2 _ _ _) ?_ ?s ?t ?z; (case F => k_asm); (case N => k_asm); (case l => kmk_list); (case p => kmk_part); (case q => kmk_part); (case s => with_unfolding_all rfl); (case t => kmk_pure); (case z => (rw [PySem.sizeLine_eq]; simp only [List.size_toArray, List.length_cons]; omega))); intro D5 h5 F5 N5 l5; (try k_lt l5)))
theorem c_splitdoc (w : World) (x : Str) (t : Tok) (hx : x.length ≤ 3000) (hg : Good (C x)) : Gives w 21 1 [.str x t] (fun _ => True) (OutP (S (pair (C x)).1) (S (pair (C x)).2)) := by
  k_with_none
  k_with "call builtin:str.strip" => (k_here; k_dflt (refine my_strip hg (by omega) ?_; intro t8 k8 l8; (try dsimp only)))
  k_with "call builtin:str.split" => (k_here; k_dflt (refine my_split (by simp only [S_length] at l8; omega) (by k_asm) (by k_asm) ?_; intro D8 vs8 h8 k7 i8 F8 N8 o8; (rcases two_ways i8 with ⟨t7, rfl, w7⟩ | ⟨p7, q7, r7, t7, u7, vs7, w7, rfl, i7⟩); (all_goals (try (have c7 := rest_len hx w7 i7))); (all_goals (try dsimp only)); (all_goals (try k_fold))))
  k_with "call builtin:len" => (k_here; k_dflt (refine my_len2 (by k_asm) (by k_mem) (by omega) ?_; (try dsimp only)))
  k_with "subscriptTail Name Constant ref int" => (k_here; (with_unfolding_all refine' my_item ?k1 ?k2 ?k3 ?k4 ?k5 ?_ ?k6; (case k1 => k_asm); (case k2 => k_mem); (case k3 => decide); (case k4 => decide); (case k5 => rfl); (case k6 => with_unfolding_all rfl); k_whole))
  k_with "call builtin:str.rstrip" => (k_here; k_dflt (refine my_rstrip (by exact lines_good (bare_good hg) _ (by rw [w7]; exact List.mem_cons_of_mem _ List.mem_cons_self)) (Nat.le_trans (lines_each' hx w7 (S q7) (by simp)) (by omega)) ?_; intro t6 k6 l6; (have l5 := lines_each' hx w7 (S q7) (by simp)); (try dsimp only)))
  k_with "subscriptTail Name Slice ref ref" => (walk_at "mine slice2")
  k_with "call builtin:str.join" => (k_here; k_dflt (refine my_join 3000 3000 (News.isList (by k_asm) (by k_mem)) i7 (fun y hy => lines_each' hx w7 y (List.mem_cons_of_mem _ (List.mem_cons_of_mem _ hy))) (by rw [← strs_len i7]; omega) (by omega) ?_; intro t4 k4; (try dsimp only)))
  k_with "call builtin:str.join" => (k_here; k_dflt (refine my_join 3000 3002 (News.isList (by k_asm) (by k_mem)) i8 (fun y hy => lines_each' hx w7 y (by rw [← w7]; exact hy)) (by rw [← strs_len i8]; simp only [List.length_cons]; omega) (by omega) ?_; intro t4 k4; (try dsimp only)))
  unfold Gives; k_fill
  intro mean mg mb dp un gd cn cs a ccd cl outer A₀ base h₀ L m news s Q E B F X N T hk hd hu hpre hret
  walk_at "mine enter"
  k_steps
  · exact endP hret (by assumption) (by assumption) (by kcf_all) (by walk_at "mine off") (sd_1 w7)
  · exfalso; omega
  · exact endP hret (by assumption) (by assumption) (by kcf_all) (by walk_at "mine off") (sd_2 w7 (by assumption))
  · exact endP hret (by assumption) (by assumption) (by kcf_all) (by walk_at "mine off") (sd_3 w7 (by assumption))
end
end Mine

namespace Mine
section
local macro_rules | `(tactic| walk_at "mine enter") => `(tactic| (refine wpAny_call ?_; k_dflt cell_enter))
local macro_rules | `(tactic| walk_at "mine enterC") => `(tactic| (refine wpAny_call ?_; k_dflt (refine' code_defC ?k1 ?k2 ?k3 ?k4 ?k5 ?kA ?kF ?kK ?k6 ?k7 ?k8 ?k9 ?kB ?kD ?_ ?c2 ?c3 ?c4; (case kA => exact rfl); (case kF => exact rfl); (case kK => assumption); (case k1 => k_asm); (case k2 => k_asm); (case k3 => k_asm); (case k4 => k_asm); (case k5 => k_asm); (case k6 => k_is); (case k7 => k_is); (case k8 => ktr_room); (case k9 => exact BindsTo.of_eq rfl); (case kB => exact rfl); (case kD => decide +kernel); (case c2 => exact rfl); (case c3 => exact rfl); (case c4 => exact rfl); k_whole; intro g' L' h' tk' cells' FG' F' N' Y' B' X' T' l1; (try k_lt l1); k_cells Y'; (try simp only [List.cons_append, List.nil_append] at N'); (try dsimp only); (try k_lift B'); (try k_fold))))
local macro_rules | `(tactic| walk_at "CompSrcT") => `(tactic| k_extra "CompSrcT")
local macro_rules | `(tactic| walk_at "CompSrc") => `(tactic| k_extra "CompSrc")
local macro_rules | `(tactic| walk_at "CompEnd") => `(tactic| k_extra "CompEnd")
local macro_rules | `(tactic| walk_at "KPfDone") => `(tactic| k_extra "KPfDone")
local macro_rules | `(tactic| walk_at "call ref") => `(tactic| k_extra "call ref")
local macro_rules | `(tactic| walk_at "eval ListComp") => `(tactic| k_extra "eval ListComp")
local macro_rules | `(tactic| walk_at "mine call") => `(tactic| (
  (case k1 => first | k_asm | fail "B")
  (case k2 => first | k_asm | fail "F")
  (case k3 => first | k_asm | fail "X")
  (case k4 => first | k_asm | fail "N")
  (case k5 => first | k_asm | fail "T")
  (case kK => first | exact rfl | assumption | fail "K")
  (case kd => first | ktr_room | fail "room")
  (case ku => first | ktr_units | fail "units")
  (case kp => first | exact True.intro | fail "pre")))
local macro_rules | `(tactic| walk_at "mine off") => `(tactic| first | assumption | exact off_of_lt (by assumption) | exact off_of_allLt (by assumption) | exact And.right (by assumption) | exact off_of_allLt (And.right (by assumption)) | exact off_of_allLt (And.right (And.right (by assumption))))
local macro_rules | `(tactic| walk_at "call builtin:str.find") => `(tactic| k_extra "call builtin:str.find")
local macro_rules | `(tactic| walk_at "call builtin:str.rfind") => `(tactic| k_extra "call builtin:str.rfind")
theorem c_strip (w : World) (x : Str) (t : Tok) (hx : x.length ≤ 90000) : Gives w 42 1 [.str x t] (fun _ => True) (OutS (S (name (C x)))) := by
  k_with_none
  k_with "call builtin:str.find" => (k_here; k_dflt (refine my_find4 (find4_fact x _ (by omega)) ?_; intro f8; (try dsimp only)))
  k_with "call builtin:str.rfind" => (k_here; k_dflt (refine my_rfind4 (rfind4_fact x _ (by omega)) ?_; intro f7; (try dsimp only)))
  unfold Gives; k_fill
  intro mean mg mb dp un gd cn cs a ccd cl outer A₀ base h₀ L m news s Q E B F X N T hk hd hu hpre hret
  walk_at "mine enter"
  k_steps
  · exact endS hret (by assumption) (by assumption) (by kcf_all) (strip_end (by assumption) (.inl ⟨by assumption, rfl⟩) (.inl ⟨by assumption, rfl⟩))
  · exact endS hret (by assumption) (by assumption) (by kcf_all) (strip_end (by assumption) (.inl ⟨by assumption, rfl⟩) (.inr ⟨by assumption, rfl⟩))
  · exact endS hret (by assumption) (by assumption) (by kcf_all) (strip_end (by assumption) (.inr ⟨by assumption, rfl⟩) (.inl ⟨by assumption, rfl⟩))
  · exact endS hret (by assumption) (by assumption) (by kcf_all) (strip_end (by assumption) (.inr ⟨by assumption, rfl⟩) (.inr ⟨by assumption, rfl⟩))
end
end Mine

namespace Mine
section
local macro_rules | `(tactic| walk_at "mine enter") => `(tactic| (refine wpAny_call ?_; k_dflt cell_enter))
local macro_rules | `(tactic| walk_at "mine enterC") => `(tactic| (refine wpAny_call ?_; k_dflt (refine' code_defC ?k1 ?k2 ?k3 ?k4 ?k5 ?kA ?kF ?kK ?k6 ?k7 ?k8 ?k9 ?kB ?kD ?_ ?c2 ?c3 ?c4; (case kA => exact rfl); (case kF => exact rfl); (case kK => assumption); (case k1 => k_asm); (case k2 => k_asm); (case k3 => k_asm); (case k4 => k_asm); (case k5 => k_asm); (case k6 => k_is); (case k7 => k_is); (case k8 => ktr_room); (case k9 => exact BindsTo.of_eq rfl); (case kB => exact rfl); (case kD => decide +kernel); (case c2 => exact rfl); (case c3 => exact rfl); (case c4 => exact rfl); k_whole; intro g' L' h' tk' cells' FG' F' N' Y' B' X' T' l1; (try k_lt l1); k_cells Y'; (try simp only [List.cons_append, List.nil_append] at N'); (try dsimp only); (try k_lift B'); (try k_fold))))
local macro_rules | `(tactic| walk_at "CompSrcT") => `(tactic| k_extra "CompSrcT")
local macro_rules | `(tactic| walk_at "CompSrc") => `(tactic| k_extra "CompSrc")
local macro_rules | `(tactic| walk_at "CompEnd") => `(tactic| k_extra "CompEnd")
local macro_rules | `(tactic| walk_at "KPfDone") => `(tactic| k_extra "KPfDone")
local macro_rules | `(tactic| walk_at "call ref") => `(tactic| k_extra "call ref")
local macro_rules | `(tactic| walk_at "eval ListComp") => `(tactic| k_extra "eval ListComp")
local macro_rules | `(tactic| walk_at "mine call") => `(tactic| (
  (case k1 => first | k_asm | fail "B")
  (case k2 => first | k_asm | fail "F")
  (case k3 => first | k_asm | fail "X")
  (case k4 => first | k_asm | fail "N")
  (case k5 => first | k_asm | fail "T")
  (case kK => first | exact rfl | assumption | fail "K")
  (case kd => first | ktr_room | fail "room")
  (case ku => first | ktr_units | fail "units")
  (case kp => first | exact True.intro | fail "pre")))
local macro_rules | `(tactic| walk_at "mine off") => `(tactic| first | assumption | exact off_of_lt (by assumption) | exact off_of_allLt (by assumption) | exact And.right (by assumption) | exact off_of_allLt (And.right (by assumption)) | exact off_of_allLt (And.right (And.right (by assumption))))
local macro_rules | `(tactic| walk_at "mine enterV") => `(tactic| (refine wpAny_call ?_; k_dflt (refine' kp_rest ?k1 ?k2 ?k3 ?k4 ?k5 ?kA ?kF ?kK ?k6 ?k7 ?k8 ?kV ?kP ?kG ?kB ?_ ?c2 ?c3 ?c4 ?c5; (case kA => exact rfl); (case kF => exact rfl); (case kK => assumption); (case k1 => k_asm); (case k2 => k_asm); (case k3 => k_asm); (case k4 => k_asm); (case k5 => k_asm); (case k6 => k_is); (case k7 => k_is); (case k8 => ktr_room); (case kV => kl_lit); (case kP => exact rfl); (case kG => exact fun _ => rfl); (case kB => exact fun _ => locs rfl); (case c5 => decide); (case c2 => exact rfl); (case c3 => exact rfl); (case c4 => exact rfl); k_whole; intro D' g' L' h' l1 FG' F' N' B' X' T'; (try k_lt l1); (try dsimp only); (try k_lift B'); (try k_fold))))
local macro_rules | `(tactic| walk_at "call builtin:str.join") => `(tactic| k_extra "call builtin:str.join")
local macro_rules | `(tactic| walk_at "call builtin:str.split") => `(tactic| k_extra "call builtin:str.split")
local macro_rules | `(tactic| walk_at "exec While Name cons nil") => `(tactic| (k_here; k_dflt (refine whl_start 100 ?_)))
local macro_rules | `(tactic| walk_at "exec While") => `(tactic| (k_here; k_dflt (refine whl_start 100 ?_)))
local macro_rules | `(tactic| walk_at "exec While Name") => `(tactic| (k_here; k_dflt (refine whl_start 100 ?_)))
local macro_rules | `(tactic| walk_at "subscriptTail Name Slice ref ref") => `(tactic| (k_here; (with_reducible show wpAny _ _ (subscriptTail _ (PySem.Expr.Slice _ _ none _) (Value.ref _) (Value.ref _)) _ _ _); k_dflt (refine' my_tup2 ?F ?N ?l ?z ?_ ?s ?t; (case F => k_asm); (case N => k_asm); (case l => k_mem); (case z => exact Nat.le_of_ble_eq_true rfl); (case s => with_unfolding_all rfl); (case t => kmk_pure)); intro D5 h5 F5 N5 l5; (try k_lt l5)))
theorem c_rep1 (w : World) (x : Str) (t t1 t2 t3 t4 t5 t6 : Tok) (hx : x.length ≤ 90000) : Gives w 28 1 [.str x t, .str (Str.ofString "\n# ") t1, .str (Str.ofString "\n!") t2, .str (Str.ofString "\n#") t3, .str (Str.ofString "\n") t4, .str (Str.ofString "\n!") t5, .str (Str.ofString "\n") t6] (fun _ => True) (OutS (rep3 x)) := by
  k_with_none
  k_with "call builtin:str.split" => (k_here; k_dflt (refine my_splitG (by omega) (by decide +kernel) (by k_asm) (by k_asm) ?_; intro D8 vs8 h8 k7 i8 F8 N8 o8; (try k_lt o8); (try dsimp only); (try k_fold)))
  k_with "call builtin:str.join" => (k_here; k_dflt (refine my_joinG (News.isList (by k_asm) (by k_mem)) (by assumption) (by omega) (by decide +kernel) (by decide +kernel) (by decide +kernel) ?_; intro t9 k9 l9; (try dsimp only)))
  unfold Gives; k_fill
  intro mean mg mb dp un gd cn cs a ccd cl outer A₀ base h₀ L m news s Q E B F X N T hk hd hu hpre hret
  walk_at "mine enterV"
  k_steps
  exact endS hret (by assumption) (by assumption) (by kcf_all) rfl
end
end Mine

namespace Mine
section
local macro_rules | `(tactic| walk_at "mine enter") => `(tactic| (refine wpAny_call ?_; k_dflt cell_enter))
local macro_rules | `(tactic| walk_at "mine enterC") => `(tactic| (refine wpAny_call ?_; k_dflt (refine' code_defC ?k1 ?k2 ?k3 ?k4 ?k5 ?kA ?kF ?kK ?k6 ?k7 ?k8 ?k9 ?kB ?kD ?_ ?c2 ?c3 ?c4; (case kA => exact rfl); (case kF => exact rfl); (case kK => assumption); (case k1 => k_asm); (case k2 => k_asm); (case k3 => k_asm); (case k4 => k_asm); (case k5 => k_asm); (case k6 => k_is); (case k7 => k_is); (case k8 => ktr_room); (case k9 => exact BindsTo.of_eq rfl); (case kB => exact rfl); (case kD => decide +kernel); (case c2 => exact rfl); (case c3 => exact rfl); (case c4 => exact rfl); k_whole; intro g' L' h' tk' cells' FG' F' N' Y' B' X' T' l1; (try k_lt l1); k_cells Y'; (try simp only [List.cons_append, List.nil_append] at N'); (try dsimp only); (try k_lift B'); (try k_fold))))
local macro_rules | `(tactic| walk_at "CompSrcT") => `(tactic| k_extra "CompSrcT")
local macro_rules | `(tactic| walk_at "CompSrc") => `(tactic| k_extra "CompSrc")
local macro_rules | `(tactic| walk_at "CompEnd") => `(tactic| k_extra "CompEnd")
local macro_rules | `(tactic| walk_at "KPfDone") => `(tactic| k_extra "KPfDone")
local macro_rules | `(tactic| walk_at "call ref") => `(tactic| k_extra "call ref")
local macro_rules | `(tactic| walk_at "eval ListComp") => `(tactic| k_extra "eval ListComp")
local macro_rules | `(tactic| walk_at "mine call") => `(tactic| (
  (case k1 => first | k_asm | fail "B")
  (case k2 => first | k_asm | fail "F")
  (case k3 => first | k_asm | fail "X")
  (case k4 => first | k_asm | fail "N")
  (case k5 => first | k_asm | fail "T")
  (case kK => first | exact rfl | assumption | fail "K")
  (case kd => first | ktr_room | fail "room")
  (case ku => first | ktr_units | fail "units")
  (case kp => first | exact True.intro | fail "pre")))
local macro_rules | `(tactic| walk_at "mine off") => `(tactic| first | assumption | exact off_of_lt (by assumption) | exact off_of_allLt (by assumption) | exact And.right (by assumption) | exact off_of_allLt (And.right (by assumption)) | exact off_of_allLt (And.right (And.right (by assumption))))
local macro_rules | `(tactic| walk_at "mine enterV") => `(tactic| (refine wpAny_call ?_; k_dflt (refine' kp_rest ?k1 ?k2 ?k3 ?k4 ?k5 ?kA ?kF ?kK ?k6 ?k7 ?k8 ?kV ?kP ?kG ?kB ?_ ?c2 ?c3 ?c4 ?c5; (case kA => exact rfl); (case kF => exact rfl); (case kK => assumption); (case k1 => k_asm); (case k2 => k_asm); (case k3 => k_asm); (case k4 => k_asm); (case k5 => k_asm); (case k6 => k_is); (case k7 => k_is); (case k8 => ktr_room); (case kV => kl_lit); (case kP => exact rfl); (case kG => exact fun _ => rfl); (case kB => exact fun _ => locs rfl); (case c5 => decide); (case c2 => exact rfl); (case c3 => exact rfl); (case c4 => exact rfl); k_whole; intro D' g' L' h' l1 FG' F' N' B' X' T'; (try k_lt l1); (try dsimp only); (try k_lift B'); (try k_fold))))
local macro_rules | `(tactic| walk_at "call builtin:str.join") => `(tactic| k_extra "call builtin:str.join")
local macro_rules | `(tactic| walk_at "call builtin:str.split") => `(tactic| k_extra "call builtin:str.split")
local macro_rules | `(tactic| walk_at "exec While Name cons nil") => `(tactic| (k_here; k_dflt (refine whl_start 100 ?_)))
local macro_rules | `(tactic| walk_at "exec While") => `(tactic| (k_here; k_dflt (refine whl_start 100 ?_)))
local macro_rules | `(tactic| walk_at "exec While Name") => `(tactic| (k_here; k_dflt (refine whl_start 100 ?_)))
local macro_rules | `(tactic| walk_at "subscriptTail Name Slice ref ref") => `(tactic| (k_here; (with_reducible show wpAny _ _ (subscriptTail _ (PySem.Expr.Slice _ _ none _) (Value.ref _) (Value.ref _)) _ _ _); k_dflt (refine' my_tup2 ?F ?N ?l ?z ?_ ?s ?t; (case F => k_asm); (case N => k_asm); (case l => k_mem); (case z => exact Nat.le_of_ble_eq_true rfl); (case s => with_unfolding_all rfl); (case t => kmk_pure)); intro D5 h5 F5 N5 l5; (try k_lt l5)))
theorem c_rep2 (w : World) (x : Str) (t t1 t2 t3 t4 t5 t6 t7 t8 t9 t10 t11 t12 : Tok) (hx : x.length ≤ 90000) : Gives w 28 1 [.str x t, .str (Str.ofString "\n# ") t1, .str (Str.ofString "\n!") t2, .str (Str.ofString "\n#") t3, .str (Str.ofString "\n") t4, .str (Str.ofString "\n!") t5, .str (Str.ofString "\n") t6, .str (Str.ofString "\n# ") t7, .str (Str.ofString "\n!") t8, .str (Str.ofString "\n#") t9, .str (Str.ofString "\n") t10, .str (Str.ofString "\n!") t11, .str (Str.ofString "\n") t12] (fun _ => True) (OutS (rep3 (rep3 x))) := by
  k_with_none
  k_with "call builtin:str.split" => (k_here; k_dflt (refine my_splitG (by omega) (by decide +kernel) (by k_asm) (by k_asm) ?_; intro D8 vs8 h8 k7 i8 F8 N8 o8; (try k_lt o8); (try dsimp only); (try k_fold)))
  k_with "call builtin:str.join" => (k_here; k_dflt (refine my_joinG (News.isList (by k_asm) (by k_mem)) (by assumption) (by omega) (by decide +kernel) (by decide +kernel) (by decide +kernel) ?_; intro t9 k9 l9; (try dsimp only)))
  unfold Gives; k_fill
  intro mean mg mb dp un gd cn cs a ccd cl outer A₀ base h₀ L m news s Q E B F X N T hk hd hu hpre hret
  walk_at "mine enterV"
  k_steps
  exact endS hret (by assumption) (by assumption) (by kcf_all) rfl
end
end Mine

namespace Mine
section
local macro_rules | `(tactic| walk_at "mine enter") => `(tactic| (refine wpAny_call ?_; k_dflt cell_enter))
local macro_rules | `(tactic| walk_at "mine enterC") => `(tactic| (refine wpAny_call ?_; k_dflt (refine' code_defC ?k1 ?k2 ?k3 ?k4 ?k5 ?kA ?kF ?kK ?k6 ?k7 ?k8 ?k9 ?kB ?kD ?_ ?c2 ?c3 ?c4; (case kA => exact rfl); (case kF => exact rfl); (case kK => assumption); (case k1 => k_asm); (case k2 => k_asm); (case k3 => k_asm); (case k4 => k_asm); (case k5 => k_asm); (case k6 => k_is); (case k7 => k_is); (case k8 => ktr_room); (case k9 => exact BindsTo.of_eq rfl); (case kB => exact rfl); (case kD => decide +kernel); (case c2 => exact rfl); (case c3 => exact rfl); (case c4 => exact rfl); k_whole; intro g' L' h' tk' cells' FG' F' N' Y' B' X' T' l1; (try k_lt l1); k_cells Y'; (try simp only [List.cons_append, List.nil_append] at N'); (try dsimp only); (try k_lift B'); (try k_fold))))
local macro_rules | `(tactic| walk_at "CompSrcT") => `(tactic| k_extra "CompSrcT")
local macro_rules | `(tactic| walk_at "CompSrc") => `(tactic| k_extra "CompSrc")
local macro_rules | `(tactic| walk_at "CompEnd") => `(tactic| k_extra "CompEnd")
local macro_rules | `(tactic| walk_at "KPfDone") => `(tactic| k_extra "KPfDone")
local macro_rules | `(tactic| walk_at "call ref") => `(tactic| k_extra "call ref")
local macro_rules | `(tactic| walk_at "eval ListComp") => `(tactic| k_extra "eval ListComp")
local macro_rules | `(tactic| walk_at "mine call") => `(tactic| (
  (case k1 => first | k_asm | fail "B")
  (case k2 => first | k_asm | fail "F")
  (case k3 => first | k_asm | fail "X")
  (case k4 => first | k_asm | fail "N")
  (case k5 => first | k_asm | fail "T")
  (case kK => first | exact rfl | assumption | fail "K")
  (case kd => first | ktr_room | fail "room")
  (case ku => first | ktr_units | fail "units")
  (case kp => first | exact True.intro | fail "pre")))
local macro_rules | `(tactic| walk_at "mine off") => `(tactic| first | assumption | exact off_of_lt (by assumption) | exact off_of_allLt (by assumption) | exact And.right (by assumption) | exact off_of_allLt (And.right (by assumption)) | exact off_of_allLt (And.right (And.right (by assumption))))
local macro_rules | `(tactic| walk_at "mine enterV") => `(tactic| (refine wpAny_call ?_; k_dflt (refine' kp_rest ?k1 ?k2 ?k3 ?k4 ?k5 ?kA ?kF ?kK ?k6 ?k7 ?k8 ?kV ?kP ?kG ?kB ?_ ?c2 ?c3 ?c4 ?c5; (case kA => exact rfl); (case kF => exact rfl); (case kK => assumption); (case k1 => k_asm); (case k2 => k_asm); (case k3 => k_asm); (case k4 => k_asm); (case k5 => k_asm); (case k6 => k_is); (case k7 => k_is); (case k8 => ktr_room); (case kV => kl_lit); (case kP => exact rfl); (case kG => exact fun _ => rfl); (case kB => exact fun _ => locs rfl); (case c5 => decide); (case c2 => exact rfl); (case c3 => exact rfl); (case c4 => exact rfl); k_whole; intro D' g' L' h' l1 FG' F' N' B' X' T'; (try k_lt l1); (try dsimp only); (try k_lift B'); (try k_fold))))
local macro_rules | `(tactic| walk_at "call builtin:str.join") => `(tactic| k_extra "call builtin:str.join")
local macro_rules | `(tactic| walk_at "call builtin:str.split") => `(tactic| k_extra "call builtin:str.split")
local macro_rules | `(tactic| walk_at "exec While Name cons nil") => `(tactic| (k_here; k_dflt (refine whl_start 100 ?_)))
local macro_rules | `(tactic| walk_at "exec While") => `(tactic| (k_here; k_dflt (refine whl_start 100 ?_)))
local macro_rules | `(tactic| walk_at "exec While Name") => `(tactic| (k_here; k_dflt (refine whl_start 100 ?_)))
local macro_rules | `(tactic| walk_at "subscriptTail Name Slice ref ref") => `(tactic| (k_here; (with_reducible show wpAny _ _ (subscriptTail _ (PySem.Expr.Slice _ _ none _) (Value.ref _) (Value.ref _)) _ _ _); k_dflt (refine' my_tup2 ?F ?N ?l ?z ?_ ?s ?t; (case F => k_asm); (case N => k_asm); (case l => k_mem); (case z => exact Nat.le_of_ble_eq_true rfl); (case s => with_unfolding_all rfl); (case t => kmk_pure)); intro D5 h5 F5 N5 l5; (try k_lt l5)))
theorem c_rep3 (w : World) (x : Str) (t t1 t2 t3 t4 t5 t6 t7 t8 t9 t10 t11 t12 t13 t14 t15 t16 t17 t18 : Tok) (hx : x.length ≤ 90000) : Gives w 28 1 [.str x t, .str (Str.ofString "\n# ") t1, .str (Str.ofString "\n!") t2, .str (Str.ofString "\n#") t3, .str (Str.ofString "\n") t4, .str (Str.ofString "\n!") t5, .str (Str.ofString "\n") t6, .str (Str.ofString "\n# ") t7, .str (Str.ofString "\n!") t8, .str (Str.ofString "\n#") t9, .str (Str.ofString "\n") t10, .str (Str.ofString "\n!") t11, .str (Str.ofString "\n") t12, .str (Str.ofString "\n# ") t13, .str (Str.ofString "\n!") t14, .str (Str.ofString "\n#") t15, .str (Str.ofString "\n") t16, .str (Str.ofString "\n!") t17, .str (Str.ofString "\n") t18] (fun _ => True) (OutS (rep3 (rep3 (rep3 x)))) := by
  k_with_none
  k_with "call builtin:str.split" => (k_here; k_dflt (refine my_splitG (by omega) (by decide +kernel) (by k_asm) (by k_asm) ?_; intro D8 vs8 h8 k7 i8 F8 N8 o8; (try k_lt o8); (try dsimp only); (try k_fold)))
  k_with "call builtin:str.join" => (k_here; k_dflt (refine my_joinG (News.isList (by k_asm) (by k_mem)) (by assumption) (by omega) (by decide +kernel) (by decide +kernel) (by decide +kernel) ?_; intro t9 k9 l9; (try dsimp only)))
  unfold Gives; k_fill
  intro mean mg mb dp un gd cn cs a ccd cl outer A₀ base h₀ L m news s Q E B F X N T hk hd hu hpre hret
  walk_at "mine enterV"
  k_steps
  exact endS hret (by assumption) (by assumption) (by kcf_all) rfl
end
end Mine

namespace Mine
def MpEl (G : Str → Prop) (news : List (Addr × Obj)) (y : Value) (news' : List (Addr × Obj)) : Prop := news' = news ∧ ∃ (z : Str) (t : Tok), y = .str z t ∧ G z
section
variable {prog : Program} {w : World} {A : Around} {h₀ : Heap} {L : Addr} {m : Str → Option Value} {env : Env} {elt : Expr} {x : Str} {scope : Scope} {cl : List (Str × Addr)} {s : Shared} {S : List (Addr × Obj) → Prop} {Fin : List Value → List (Addr × Obj) → Prop} {news : List (Addr × Obj)}
theorem mp_rest {vs : List Value} {ns : List Int} (G : Str → Prop) (hi : IntsAre vs ns)
    (turn : ∀ k t I oI C oC D m₂ ys h tk (E' : Value → Shared → Prop), LCg.NsObj oC m₂ → m₂ x = some (.int k t) → Fr h₀ L h m → News h₀ L h ((I, oI) :: (C, oC) :: (D, LCg.lst ys) :: news) → LCg.Off3 I C D news → ((@Ne Nat I C) ∧ (@Ne Nat I D) ∧ (@Ne Nat C D)) → KPfMark →
      wpAny (model prog w) A (eval elt (compEnvC scope cl C env)) (LCg.CompEnd h₀ L m { s with heap := h, toks := tk } I oI C oC D (LCg.lst ys) S (fun y news' => MpEl G news y news')) E' { s with heap := h, toks := tk })
    (fin : ∀ ys zs, StrsAre ys zs → zs.length = ns.length → (∀ z ∈ zs, G z) → Fin ys news) : LCg.CompRest prog w A h₀ L m env elt x scope cl s S (fun i v => vs.toArray[i]? = some v) Fin vs.toArray.size 0 [] news := by
  have key : ∀ (j i : Nat) (ys : List Value) (zs : List Str), i + j = vs.toArray.size → zs.length = i → StrsAre ys zs → (∀ z ∈ zs, G z) → LCg.CompRest prog w A h₀ L m env elt x scope cl s S (fun i v => vs.toArray[i]? = some v) Fin j i ys news := by
    intro j
    induction j with
    | zero =>
      intro i ys zs hi' hz hy hg
      refine LCg.CompRest.zero (fin ys zs hy ?_ hg)
      have := hi.length
      rw [hz, ← this]; simpa using hi'
    | succ j ih =>
      intro i ys zs hi' hz hy hg
      refine LCg.CompRest.succ ?_
      intro v I oI C oC D m₂ h tk E' hv hC hx F N off ne
      obtain ⟨k, t, hv', hk⟩ := IntsAre.at hi i v (by simpa using hv)
      rw [hv'] at hx
      refine wpAny_mono (turn k t I oI C oC D m₂ ys h tk E' hC hx F N off ne True.intro) (fun y s₂ hq => ?_) fun _ _ e => e
      obtain ⟨h', tk', nw, e, F', N', off', hS, hn, z, t', hy', hgz⟩ := hq
      rw [hn] at N' off' hS
      refine ⟨h', tk', news, e, F', N', off', hS, ?_⟩
      rw [hy']
      refine ih (i + 1) _ (zs ++ [z]) (by omega) (by rw [List.length_append, hz]; rfl) (kct_snoc hy) ?_
      intro a ha
      rcases List.mem_append.mp ha with ha | ha
      · exact hg a ha
      · rw [List.mem_singleton.mp ha]; exact hgz
  exact key _ 0 [] [] (by omega) rfl .nil (fun _ h => nomatch h)
end
/-- a piece of the page -/
def Piece (z : Str) : Prop := Good (C z) ∧ z.length ≤ 4
def OutPage (new : List (Addr × Obj)) (v : Value) : Prop := new = [] ∧ ∃ y t, v = .str y t ∧ Good (C y) ∧ y.length ≤ 100
end Mine
namespace Mine
theorem piece_of (z : Str) (h : ((C z).all (fun c => Unicode.isSpace c == wh c && decide (c < 20000)) && decide (z.length ≤ 4)) = true) : Piece z := by
  rw [Bool.and_eq_true, List.all_eq_true, decide_eq_true_eq] at h
  exact ⟨fun c hc => by simpa [Bool.and_eq_true] using h.1 c hc, h.2⟩
theorem piece_getD {tab : List Str} {d : Str} (h : (tab.all fun z => (C z).all (fun c => Unicode.isSpace c == wh c && decide (c < 20000)) && decide (z.length ≤ 4)) = true) (hd : ((C d).all (fun c => Unicode.isSpace c == wh c && decide (c < 20000)) && decide (d.length ≤ 4)) = true) (i : Nat) : Piece (tab.getD i d) := by
  rw [List.getD_eq_getElem?_getD]
  cases e : tab[i]? with
  | none => exact piece_of _ hd
  | some z => exact piece_of _ (List.all_eq_true.mp h z (List.mem_of_getElem? e))
theorem join0_C : ∀ zs : List Str, C (Txt.join (Str.ofString "") zs) = zs.flatMap C := by
  intro zs
  show C (Builtin.Str.glued (Str.ofString "") zs) = _
  rw [StrLaws.glued_eq_join]
  have key : ∀ zs : List Str, C (Str.join (Str.ofString "") zs) = zs.flatMap C := by
    intro zs
    induction zs with
    | nil => rfl
    | cons a r ih =>
      cases r with
      | nil => simp [Str.join]
      | cons b r =>
        have e : Str.join (Str.ofString "") (a :: b :: r) = a ++ Str.ofString "" ++ Str.join (Str.ofString "") (b :: r) := rfl
        rw [e, C_append, C_append, ih, show C (Str.ofString "") = [] by decide +kernel]; simp
  exact key zs
theorem join0_good {zs : List Str} (h : ∀ z ∈ zs, Piece z) : Good (C (Txt.join (Str.ofString "") zs)) := by
  rw [join0_C]
  intro c hc
  obtain ⟨z, hz, hc⟩ := List.mem_flatMap.mp hc
  exact (h z hz).1 c hc
theorem join0_len {zs : List Str} (h : ∀ z ∈ zs, Piece z) : (Txt.join (Str.ofString "") zs).length ≤ 4 * zs.length := by
  rw [← C_length, join0_C]
  induction zs with
  | nil => simp
  | cons a r ih =>
    have h1 := (h a List.mem_cons_self).2
    have h2 := ih fun z hz => h z (List.mem_cons_of_mem _ hz)
    rw [List.flatMap_cons, List.length_append, C_length, List.length_cons]
    omega
theorem my_join0 {prog : Program} {w : World} {A : Around} {E : Value → Shared → Prop} {s : Shared} {t : Tok} {Q : Value → Shared → Prop} {D : Addr} {vs : List Value} {zs : List Str} (hl : s.heap.IsList D vs.toArray) (hi : StrsAre vs zs) (hg : ∀ z ∈ zs, Piece z) (hn : zs.length ≤ 12)
    (h : ∀ t' k y, Good (C y) → y.length ≤ 48 → Q (.str y t') { s with toks := k }) : wpAny (model prog w) A (call (.builtin "str.join") [.str (Str.ofString "") t, .ref D]) Q E s := by
  refine join_list hl (ys := zs) (by simpa using hi) ?_ (fun t' k => h t' k _ (join0_good hg) (by have := join0_len hg; omega))
  have h1 := StrLaws.sumLen_le zs fun z hz => (hg z hz).2
  have h2 : (Str.ofString "").length = 0 := by decide +kernel
  rw [h2]; omega
theorem endPage {h₀ h' : Heap} {L : Addr} {m : Str → Option Value} {news news' : List (Addr × Obj)} {s : Shared} {Q : Value → Shared → Prop} {t : Tok} {tk' : Nat} {y : Str} (hret : ∀ v new h' tk', Fr h₀ L h' m → News h₀ L h' (new ++ news) → (∀ q ∈ new, LCg.Off1 q.1 news) → OutPage new v → Q v { s with heap := h', toks := tk' })
    (F : Fr h₀ L h' m) (N : News h₀ L h' news') (sub : ∀ p ∈ news, p ∈ news') (hg : Good (C y)) (hl : y.length ≤ 100) : Q (.str y t) { s with heap := h', toks := tk' } :=
  hret _ [] _ _ F (fun p hp => N p (sub p hp)) (fun _ h => nomatch h) ⟨rfl, y, t, rfl, hg, hl⟩
theorem tail_good {y : Str} (h : Good (C y)) (hl : y.length ≤ 48) : Good (C (y ++ Str.ofString "a.E: x \n\t\n # !\n\n#z\u200b\t")) ∧ (y ++ Str.ofString "a.E: x \n\t\n # !\n\n#z\u200b\t").length ≤ 100 := by
  refine ⟨?_, ?_⟩
  · rw [C_append]
    intro c hc
    rcases List.mem_append.mp hc with hc | hc
    · exact h c hc
    · have e : ((C (Str.ofString "a.E: x \n\t\n # !\n\n#z\u200b\t")).all fun c => Unicode.isSpace c == wh c && decide (c < 20000)) = true := by decide +kernel
      simpa [Bool.and_eq_true] using List.all_eq_true.mp e c hc
  · rw [PySem.Str.length_append]
    have : (Str.ofString "a.E: x \n\t\n # !\n\n#z\u200b\t").length ≤ 50 := by decide +kernel
    omega
end Mine

namespace Mine
section
local macro_rules | `(tactic| walk_at "mine enter") => `(tactic| (refine wpAny_call ?_; k_dflt cell_enter))
local macro_rules | `(tactic| walk_at "mine enterC") => `(tactic| (refine wpAny_call ?_; k_dflt (refine' code_defC ?k1 ?k2 ?k3 ?k4 ?k5 ?kA ?kF ?kK ?k6 ?k7 ?k8 ?k9 ?kB ?kD ?_ ?c2 ?c3 ?c4; (case kA => exact rfl); (case kF => exact rfl); (case kK => assumption); (case k1 => k_asm); (case k2 => k_asm); (case k3 => k_asm); (case k4 => k_asm); (case k5 => k_asm); (case k6 => k_is); (case k7 => k_is); (case k8 => ktr_room); (case k9 => exact BindsTo.of_eq rfl); (case kB => exact rfl); (case kD => decide +kernel); (case c2 => exact rfl); (case c3 => exact rfl); (case c4 => exact rfl); k_whole; intro g' L' h' tk' cells' FG' F' N' Y' B' X' T' l1; (try k_lt l1); k_cells Y'; (try simp only [List.cons_append, List.nil_append] at N'); (try dsimp only); (try k_lift B'); (try k_fold))))
local macro_rules | `(tactic| walk_at "CompSrcT") => `(tactic| k_extra "CompSrcT")
local macro_rules | `(tactic| walk_at "CompSrc") => `(tactic| k_extra "CompSrc")
local macro_rules | `(tactic| walk_at "CompEnd") => `(tactic| k_extra "CompEnd")
local macro_rules | `(tactic| walk_at "KPfDone") => `(tactic| k_extra "KPfDone")
local macro_rules | `(tactic| walk_at "call ref") => `(tactic| k_extra "call ref")
local macro_rules | `(tactic| walk_at "eval ListComp") => `(tactic| k_extra "eval ListComp")
local macro_rules | `(tactic| walk_at "mine call") => `(tactic| (
  (case k1 => first | k_asm | fail "B")
  (case k2 => first | k_asm | fail "F")
  (case k3 => first | k_asm | fail "X")
  (case k4 => first | k_asm | fail "N")
  (case k5 => first | k_asm | fail "T")
  (case kK => first | exact rfl | assumption | fail "K")
  (case kd => first | ktr_room | fail "room")
  (case ku => first | ktr_units | fail "units")
  (case kp => first | exact True.intro | fail "pre")))
local macro_rules | `(tactic| walk_at "mine off") => `(tactic| first | assumption | exact off_of_lt (by assumption) | exact off_of_allLt (by assumption) | exact And.right (by assumption) | exact off_of_allLt (And.right (by assumption)) | exact off_of_allLt (And.right (And.right (by assumption))))
local macro_rules | `(tactic| walk_at "mine comp") => `(tactic| (k_here; k_dflt (refine LCg.ListComp_U (F₀ := by k_asm) (by with_unfolding_all rfl) (by decide) (by rfl) (by decide) (by rfl) ?_)))
local macro_rules | `(tactic| walk_at "call builtin:str.join") => `(tactic| k_extra "call builtin:str.join")
theorem ne_all {l : List (Addr × Obj)} {L d : Nat} (h : ∀ p ∈ l, p.1 < L) (e : L ≤ d) : ∀ p ∈ l, p.1 ≠ d := fun p hp => Nat.ne_of_lt (Nat.lt_of_lt_of_le (h p hp) e)
local macro_rules | `(tactic| walk_at "storeName") => `(tactic| k_extra "storeName")
local macro_rules | `(tactic| walk_at "mine cell") => `(tactic| (k_here; k_dflt (refine' storeX_C ?F ?N ?c ?U ?d ?_ ?a ?b; (case a => rfl); (case b => rfl); (case F => k_asm); (case N => k_asm); (case c => rfl); (case U => (refine UpdF.tail (by k_ne) (UpdF.head (ne_all (by assumption) (Nat.le_succ _))))); (case d => k_asm); k_whole; intro h' o' F' N' d'; (try dsimp only at N'); (try k_sweep))))
local macro_rules | `(tactic| walk_at "subscriptTail Name Constant ref int") => `(tactic| k_extra "subscriptTail Name Constant ref int")
theorem c_page (w : World) (l : Addr) (n0 : Int) (t0 : Tok) (vr : List Value) (nr : List Int) (n : Nat) (hi : IntsAre (.int n0 t0 :: vr) (n0 :: nr)) (h12 : nr.length ≤ 11) : Gives w 47 1 [.ref l] (fun news => (l, listOf (.int n0 t0 :: vr).toArray n) ∈ news) OutPage := by
  k_with_none
  k_with "eval ListComp" => (walk_at "mine comp")
  k_with "CompSrc" => (k_here; k_dflt (refine LCg.CompSrc.ledger (by rfl) (by k_asm) (by k_asm) (by kcf_m) (by rw [PySem.sizeLine_eq]; have := hi.length; simp only [List.size_toArray, List.length_cons] at *; omega) ?_; intro g9; (refine' mp_rest Piece hi (fun k' t' I' oI' C' oC' D' m' ys' h' tk' E' hC' hx' F' N' off' ne' hM' => ?_) (fun ys8 zs8 hy8 hz8 hg8 => ?_)); kcf_last))
  k_with "storeName" => (walk_at "mine cell")
  k_with "subscriptTail Name Constant ref int" => (k_here; (with_unfolding_all refine' my_item ?k1 ?k2 ?k3 ?k4 ?k5 ?_ ?k6; (case k1 => k_asm); (case k2 => kcf_m); (case k3 => decide); (case k4 => decide); (case k5 => rfl); (case k6 => with_unfolding_all rfl); k_whole))
  k_with "CompEnd" => (k_dflt (refine LCg.CompEnd.intro (by assumption) (by assumption) _ (fun p hp => hp) (by assumption) (Or.inr ⟨_, by kcf_m, rfl, _, rfl⟩) ?_; exact ⟨rfl, _, _, rfl, piece_getD (by decide +kernel) (by decide +kernel) _⟩))
  k_with "call builtin:str.join" => (k_here; k_dflt (refine my_join0 (News.isList (by k_asm) (by k_mem)) hy8 hg8 (by rw [hz8, List.length_cons]; omega) ?_; intro t7 k7 y7 g7 l7; (try dsimp only)))
  unfold Gives; k_fill
  intro mean mg mb dp un gd cn cs a ccd cl outer A₀ base h₀ L m news s Q E B F X N T hk hd hu hpre hret
  walk_at "mine enterC"
  k_steps
  · exact endPage hret (by assumption) (by assumption) (by kcf_all) g7 (by omega)
  · exact endPage hret (by assumption) (by assumption) (by kcf_all) (tail_good g7 l7).1 (tail_good g7 l7).2
end
end Mine

namespace Mine
theorem strOk_good {l : List Nat} (h : Good l) : PyData.strOk (S l) = true := by
  unfold PyData.strOk S
  rw [← Array.all_toList, List.all_eq_true]
  intro c hc
  have := (h c (by simpa using hc)).2
  simp; omega
abbrev tup2 (y : Str) (t : Tok) (z : Str) (u : Tok) : Obj := { cls := .type "tuple", data := .seq #[.str y t, .str z u] 0 }
section
variable {prog : Program} {w : World} {A : Around} {E : Value → Shared → Prop} {s : Shared} {h₀ : Heap} {L : Addr} {news : List (Addr × Obj)} {Q : Value → Shared → Prop} {a b : Addr} {y z y' z' : Str} {t u t' u' : Tok}
theorem shaped2 (hy : PyData.strOk y = true) (hz : PyData.strOk z = true) : PySem.SeqAt.shaped (.tuple [.str y, .str z]) = true := by
  simp [PySem.SeqAt.shaped, PyData.canLay0, PyData.canLayAll0, PyData.depth, PyData.depthAll, hy, hz]
theorem reads2 (N : News h₀ L s.heap news) (ha : (a, tup2 y t z u) ∈ news) : ∃ as, Reads s.heap (.ref a) (.tuple [.str y, .str z]) as :=
  ⟨_, reads_tuple_at (News.get N ha) rfl rfl (.cons (Reads.str _ _) (.cons (Reads.str _ _) .nil))⟩
theorem my_ne (N : News h₀ L s.heap news) (ha : (a, tup2 y t z u) ∈ news) (hb : (b, tup2 y t' z u') ∈ news) (hy : PyData.strOk y = true) (hz : PyData.strOk z = true) (hu : A.units + 64 < cLine) (h : Q (.bool false) s) :
    wpAny (model prog w) A (compareOp .NotEq (.ref a) (.ref b)) Q E s := by
  obtain ⟨_, ra⟩ := reads2 N ha
  obtain ⟨_, rb⟩ := reads2 N hb
  refine ne_dataH ra rb (shaped2 hy hz) (shaped2 hy hz) hu ?_
  have e : PyData.eqv (.tuple [.str y, .str z]) (.tuple [.str y, .str z]) = true := by simp [PyData.eqv, PyData.eqvAll]
  rw [e]; exact h
theorem my_eq (N : News h₀ L s.heap news) (ha : (a, tup2 y t z u) ∈ news) (hb : (b, tup2 y' t' z' u') ∈ news) (e1 : y = y') (e2 : z = z') (hy : PyData.strOk y = true) (hz : PyData.strOk z = true) (hu : A.units + 64 < cLine) (h : Q (.bool true) s) :
    wpAny (model prog w) A (compareOp .Eq (.ref a) (.ref b)) Q E s := by
  subst e1; subst e2
  obtain ⟨_, ra⟩ := reads2 N ha
  obtain ⟨_, rb⟩ := reads2 N hb
  refine eq_dataH ra rb (shaped2 hy hz) (shaped2 hy hz) hu ?_
  have e : PyData.eqv (.tuple [.str y, .str z]) (.tuple [.str y, .str z]) = true := by simp [PyData.eqv, PyData.eqvAll]
  rw [e]; exact h
end
end Mine
namespace Mine
theorem name_pair1 {l : List Nat} (h : (pair l).1 ≠ []) : name (pair l).1 = name (bare l) := (name_pair l).1 h
theorem name_pair2 {l : List Nat} (h : (pair l).1 = []) : name (pair l).2 = name (bare l) := (name_pair l).2 h
theorem fits_1 {x : Str} (h : (((S (pair (C x)).1).length : Nat) : Int) ≠ 0) : (S (name (C (S (pair (C x)).1))) == S (name (C (S (bare (C x)))))) = true := by
  rw [C_S, C_S, name_pair1 (fun e => h (by rw [e]; rfl))]; exact beq_self_eq_true _
theorem fits_2 {x : Str} (h : (((S (pair (C x)).1).length : Nat) : Int) = 0) : (S (name (C (S (pair (C x)).2))) == S (name (C (S (bare (C x)))))) = true := by
  rw [C_S, C_S, name_pair2 (List.eq_nil_of_length_eq_zero (by rw [S_length] at h; omega))]; exact beq_self_eq_true _
/-- what comes back -/
def back (l : List Nat) : List Nat := 10 :: joinN (rows l)
theorem rep3_back {l : List Nat} : rep3 (Str.ofString "\n" ++ S (comment l)) = S (back l) := Q.rep3_back
theorem back_len {x : Str} {n : Nat} (h : x.length ≤ n) : (S (back (C x))).length ≤ n + 1 := by
  rw [S_length]; have := back_len' (C x); rw [C_length] at this; simp only [back, List.length_cons]; omega
theorem back_good {l : List Nat} (h : Good l) : Good (back l) := good_nl (joinN_good (rows_good h))
theorem pair_back1 (l : List Nat) : (pair (back l)).1 = cut (pair l).1 := by unfold back; rw [pair_back]
theorem pair_back2 (l : List Nat) : (pair (back l)).2 = joinN (rows (pair l).2) := by unfold back; rw [pair_back]
end Mine

namespace Mine
section
local macro_rules | `(tactic| walk_at "mine enter") => `(tactic| (refine wpAny_call ?_; k_dflt cell_enter))
local macro_rules | `(tactic| walk_at "mine enterC") => `(tactic| (refine wpAny_call ?_; k_dflt (refine' code_defC ?k1 ?k2 ?k3 ?k4 ?k5 ?kA ?kF ?kK ?k6 ?k7 ?k8 ?k9 ?kB ?kD ?_ ?c2 ?c3 ?c4; (case kA => exact rfl); (case kF => exact rfl); (case kK => assumption); (case k1 => k_asm); (case k2 => k_asm); (case k3 => k_asm); (case k4 => k_asm); (case k5 => k_asm); (case k6 => k_is); (case k7 => k_is); (case k8 => ktr_room); (case k9 => exact BindsTo.of_eq rfl); (case kB => exact rfl); (case kD => decide +kernel); (case c2 => exact rfl); (case c3 => exact rfl); (case c4 => exact rfl); k_whole; intro g' L' h' tk' cells' FG' F' N' Y' B' X' T' l1; (try k_lt l1); k_cells Y'; (try simp only [List.cons_append, List.nil_append] at N'); (try dsimp only); (try k_lift B'); (try k_fold))))
local macro_rules | `(tactic| walk_at "CompSrcT") => `(tactic| k_extra "CompSrcT")
local macro_rules | `(tactic| walk_at "CompSrc") => `(tactic| k_extra "CompSrc")
local macro_rules | `(tactic| walk_at "CompEnd") => `(tactic| k_extra "CompEnd")
local macro_rules | `(tactic| walk_at "KPfDone") => `(tactic| k_extra "KPfDone")
local macro_rules | `(tactic| walk_at "call ref") => `(tactic| k_extra "call ref")
local macro_rules | `(tactic| walk_at "eval ListComp") => `(tactic| k_extra "eval ListComp")
local macro_rules | `(tactic| walk_at "mine call") => `(tactic| (
  (case k1 => first | k_asm | fail "B")
  (case k2 => first | k_asm | fail "F")
  (case k3 => first | k_asm | fail "X")
  (case k4 => first | k_asm | fail "N")
  (case k5 => first | k_asm | fail "T")
  (case kK => first | exact rfl | assumption | fail "K")
  (case kd => first | ktr_room | fail "room")
  (case ku => first | ktr_units | fail "units")
  (case kp => first | exact True.intro | fail "pre")))
local macro_rules | `(tactic| walk_at "mine off") => `(tactic| first | assumption | exact off_of_lt (by assumption) | exact off_of_allLt (by assumption) | exact And.right (by assumption) | exact off_of_allLt (And.right (by assumption)) | exact off_of_allLt (And.right (And.right (by assumption))))
local macro_rules | `(tactic| walk_at "mine room") => `(tactic| (have hcL9 := cLine_is; (try simp only [units_in1, units_deeper, Around.mark_units, units_caller] at *); (try dsimp only [ktrTop] at *); omega))
local macro_rules | `(tactic| walk_at "compareOp NotEq ref ref") => `(tactic| k_extra "compareOp NotEq ref ref")
local macro_rules | `(tactic| walk_at "compareOp Eq ref ref") => `(tactic| k_extra "compareOp Eq ref ref")
theorem c_fits (w : World) (x : Str) (t : Tok) (hx : x.length ≤ 3000) (hg : Good (C x)) : Gives w 99 16 [.str x t] (fun _ => True) (OutB true) := by
  k_with_none
  k_with "call ref" => (k_here; (with_reducible show wpAny _ _ (call (Value.ref 21) [Value.str _ _]) _ _ _); k_dflt (refine' useP (c_splitdoc w x _ hx hg) ?k1 ?k2 ?k3 ?k4 ?k5 ?kK ?kd ?ku ?kp ?_; walk_at "mine call"; intro D9 t9 u9 h9 tk9 F9 N9 o9; (have l8 := pair_len1 hx); (have l7 := pair_len2 hx); (try dsimp only); (try k_fold)))
  k_with "call ref" => (k_here; (with_reducible show wpAny _ _ (call (Value.ref 85) [Value.str _ _]) _ _ _); k_dflt (refine' useP (c_pair w x _ (by omega)) ?k1 ?k2 ?k3 ?k4 ?k5 ?kK ?kd ?ku ?kp ?_; walk_at "mine call"; intro D9 t9 u9 h9 tk9 F9 N9 o9; (try dsimp only); (try k_fold)))
  k_with "call ref" => (k_here; (with_reducible show wpAny _ _ (call (Value.ref 42) [Value.str _ _]) _ _ _); k_dflt (refine' useS (c_strip w _ _ (by omega)) ?k1 ?k2 ?k3 ?k4 ?k5 ?kK ?kd ?ku ?kp ?_; walk_at "mine call"; intro t9 h9 tk9 F9 N9; (try dsimp only); (try k_fold)))
  k_with "call ref" => (k_here; (with_reducible show wpAny _ _ (call (Value.ref 92) [Value.str _ _]) _ _ _); k_dflt (refine' useS (c_name w _ _ (by omega)) ?k1 ?k2 ?k3 ?k4 ?k5 ?kK ?kd ?ku ?kp ?_; walk_at "mine call"; intro t9 h9 tk9 F9 N9; (try dsimp only); (try k_fold)))
  k_with "call ref" => (k_here; (with_reducible show wpAny _ _ (call (Value.ref 78) [Value.str _ _]) _ _ _); k_dflt (refine' useS (c_bare w x _ (by omega)) ?k1 ?k2 ?k3 ?k4 ?k5 ?kK ?kd ?ku ?kp ?_; walk_at "mine call"; intro t9 h9 tk9 F9 N9; (have l6 := bareS_len hx); (try dsimp only); (try k_fold)))
  k_with "compareOp NotEq ref ref" => (k_here; k_dflt (refine my_ne (by k_asm) (by k_mem) (by k_mem) (strOk_good (pair_good1 hg)) (strOk_good (pair_good2 hg)) (by walk_at "mine room") ?_))
  unfold Gives; k_fill
  intro mean mg mb dp un gd cn cs a ccd cl outer A₀ base h₀ L m news s Q E B F X N T hk hd hu hpre hret
  walk_at "mine enter"
  k_steps
  · rename (S (name (C x)) != S (name (C x))) = true => hne; simp at hne
  · exact endB hret (by assumption) (by assumption) (by kcf_all) (fits_1 (by assumption))
  · exact endB hret (by assumption) (by assumption) (by kcf_all) (fits_2 (by assumption))
end
end Mine

namespace Mine
theorem nl_S (l : List Nat) : Str.ofString "\n" ++ S l = S (10 :: l) := by
  refine eq_S_of ?_
  rw [C_append, C_S, show C (Str.ofString "\n") = [10] by decide +kernel]; rfl
theorem c_rep1' (w : World) (l : List Nat) (t t1 t2 t3 t4 t5 t6 : Tok) (hl : l.length ≤ 980) (hc : (S (comment l)).length ≤ 3000) : Gives w 28 1 [.str (Str.ofString "\n" ++ S (comment l)) t, .str (Str.ofString "\n# ") t1, .str (Str.ofString "\n!") t2, .str (Str.ofString "\n#") t3, .str (Str.ofString "\n") t4, .str (Str.ofString "\n!") t5, .str (Str.ofString "\n") t6] (fun _ => True) (OutS (S (back l))) := by
  rw [← rep3_back]
  exact c_rep1 w _ _ _ _ _ _ _ _ (by rw [nl_S, S_length, List.length_cons]; rw [S_length] at hc; omega)
theorem my_joinS {prog : Program} {w : World} {A : Around} {E : Value → Shared → Prop} {s : Shared} {t : Tok} {Q : Value → Shared → Prop} {D : Addr} {vs : List Value} {x : Str} (hl : s.heap.IsList D vs.toArray) (hi : StrsAre vs ((rows (C x)).map S)) (hx : x.length ≤ 3000)
    (h : ∀ t' k, (S (joinN (rows (C x)))).length ≤ x.length → Q (.str (S (joinN (rows (C x)))) t') { s with toks := k }) : wpAny (model prog w) A (call (.builtin "str.join") [.str (Str.ofString "\n") t, .ref D]) Q E s := by
  refine my_join 3000 3001 hl hi (fun y hy => Nat.le_trans (rows_each x y hy) hx) (Nat.le_trans (rows_count x) (by omega)) (by omega) fun t' k => ?_
  rw [joinN_join]
  refine h t' k ?_
  have := back_len (Nat.le_refl x.length)
  simp only [S_length, back, List.length_cons] at this ⊢; omega
theorem back_ne {x : Str} (h : (S (back (C x)) != Str.ofString "\n" ++ S (joinN (rows (C x)))) = true) : False := by
  rw [nl_S] at h; simp [back] at h
theorem back_eq1 (x : Str) : S (pair (C (S (back (C x))))).1 = S (cut (C (S (pair (C x)).1))) := by rw [C_S, C_S, pair_back1]
theorem back_eq2 (x : Str) : S (pair (C (S (back (C x))))).2 = S (joinN (rows (C (S (pair (C x)).2)))) := by rw [C_S, C_S, pair_back2]
end Mine

namespace Mine
section
local macro_rules | `(tactic| walk_at "mine enter") => `(tactic| (refine wpAny_call ?_; k_dflt cell_enter))
local macro_rules | `(tactic| walk_at "mine enterC") => `(tactic| (refine wpAny_call ?_; k_dflt (refine' code_defC ?k1 ?k2 ?k3 ?k4 ?k5 ?kA ?kF ?kK ?k6 ?k7 ?k8 ?k9 ?kB ?kD ?_ ?c2 ?c3 ?c4; (case kA => exact rfl); (case kF => exact rfl); (case kK => assumption); (case k1 => k_asm); (case k2 => k_asm); (case k3 => k_asm); (case k4 => k_asm); (case k5 => k_asm); (case k6 => k_is); (case k7 => k_is); (case k8 => ktr_room); (case k9 => exact BindsTo.of_eq rfl); (case kB => exact rfl); (case kD => decide +kernel); (case c2 => exact rfl); (case c3 => exact rfl); (case c4 => exact rfl); k_whole; intro g' L' h' tk' cells' FG' F' N' Y' B' X' T' l1; (try k_lt l1); k_cells Y'; (try simp only [List.cons_append, List.nil_append] at N'); (try dsimp only); (try k_lift B'); (try k_fold))))
local macro_rules | `(tactic| walk_at "CompSrcT") => `(tactic| k_extra "CompSrcT")
local macro_rules | `(tactic| walk_at "CompSrc") => `(tactic| k_extra "CompSrc")
local macro_rules | `(tactic| walk_at "CompEnd") => `(tactic| k_extra "CompEnd")
local macro_rules | `(tactic| walk_at "KPfDone") => `(tactic| k_extra "KPfDone")
local macro_rules | `(tactic| walk_at "call ref") => `(tactic| k_extra "call ref")
local macro_rules | `(tactic| walk_at "eval ListComp") => `(tactic| k_extra "eval ListComp")
local macro_rules | `(tactic| walk_at "mine call") => `(tactic| (
  (case k1 => first | k_asm | fail "B")
  (case k2 => first | k_asm | fail "F")
  (case k3 => first | k_asm | fail "X")
  (case k4 => first | k_asm | fail "N")
  (case k5 => first | k_asm | fail "T")
  (case kK => first | exact rfl | assumption | fail "K")
  (case kd => first | ktr_room | fail "room")
  (case ku => first | ktr_units | fail "units")
  (case kp => first | exact True.intro | fail "pre")))
local macro_rules | `(tactic| walk_at "mine off") => `(tactic| first | assumption | exact off_of_lt (by assumption) | exact off_of_allLt (by assumption) | exact And.right (by assumption) | exact off_of_allLt (And.right (by assumption)) | exact off_of_allLt (And.right (And.right (by assumption))))
local macro_rules | `(tactic| walk_at "mine room") => `(tactic| (have hcL9 := cLine_is; (try simp only [units_in1, units_deeper, Around.mark_units, units_caller] at *); (try dsimp only [ktrTop] at *); omega))
local macro_rules | `(tactic| walk_at "compareOp NotEq ref ref") => `(tactic| k_extra "compareOp NotEq ref ref")
local macro_rules | `(tactic| walk_at "compareOp Eq ref ref") => `(tactic| k_extra "compareOp Eq ref ref")
local macro_rules | `(tactic| walk_at "call builtin:str.join") => `(tactic| k_extra "call builtin:str.join")
theorem c_back (w : World) (x : Str) (t u : Tok) (D : Addr) (n : Nat) (t1 t2 t3 t4 t5 t6 : Tok) (hx : x.length ≤ 950) (hg : Good (C x)) : Gives w 106 16 [.str x t, .str (S (comment (C x))) u, .ref D] (fun news => (D, listOf [.str (Str.ofString "\n# ") t1, .str (Str.ofString "\n!") t2, .str (Str.ofString "\n#") t3, .str (Str.ofString "\n") t4, .str (Str.ofString "\n!") t5, .str (Str.ofString "\n") t6].toArray n) ∈ news) (OutB true) := by
  k_with_none
  k_with "call ref" => (k_here; (with_reducible show wpAny _ _ (call (Value.ref 28) _) _ _ _); k_dflt (refine' useS (c_rep1' w (C x) _ _ _ _ _ _ _ (by rw [C_length]; omega) (by omega)) ?k1 ?k2 ?k3 ?k4 ?k5 ?kK ?kd ?ku ?kp ?_; walk_at "mine call"; intro t9 h9 tk9 F9 N9; (have l9 := back_len hx); (try dsimp only); (try k_fold)))
  k_with "call ref" => (k_here; (with_reducible show wpAny _ _ (call (Value.ref 71) [Value.str _ _]) _ _ _); k_dflt (refine' useS (c_comment w x _ (by omega)) ?k1 ?k2 ?k3 ?k4 ?k5 ?kK ?kd ?ku ?kp ?_; walk_at "mine call"; intro t9 h9 tk9 F9 N9; (try dsimp only); (try k_fold)))
  k_with "call ref" => (k_here; (with_reducible show wpAny _ _ (call (Value.ref 66) [Value.str _ _]) _ _ _); k_dflt (refine' useL (c_rows w _ _ (by omega)) ?k1 ?k2 ?k3 ?k4 ?k5 ?kK ?kd ?ku ?kp ?_; walk_at "mine call"; intro D9 vs9 n9 h9 tk9 F9 N9 o9 i9; (try dsimp only); (try k_fold)))
  k_with "call ref" => (k_here; (with_reducible show wpAny _ _ (call (Value.ref 21) [Value.str x _]) _ _ _); k_dflt (refine' useP (c_splitdoc w x _ (by omega) hg) ?k1 ?k2 ?k3 ?k4 ?k5 ?kK ?kd ?ku ?kp ?_; walk_at "mine call"; intro D9 t9 u9 h9 tk9 F9 N9 o9; (have l8 := pair_len1 hx); (have l7 := pair_len2 hx); (try dsimp only); (try k_fold)))
  k_with "call ref" => (k_here; (with_reducible show wpAny _ _ (call (Value.ref 21) [Value.str (S (back (C x))) _]) _ _ _); k_dflt (refine' useP (c_splitdoc w (S (back (C x))) _ (by omega) (back_good hg)) ?k1 ?k2 ?k3 ?k4 ?k5 ?kK ?kd ?ku ?kp ?_; walk_at "mine call"; intro D9 t9 u9 h9 tk9 F9 N9 o9; (try dsimp only); (try k_fold)))
  k_with "call ref" => (k_here; (with_reducible show wpAny _ _ (call (Value.ref 59) [Value.str _ _]) _ _ _); k_dflt (refine' useS (c_cut w _ _ (by omega)) ?k1 ?k2 ?k3 ?k4 ?k5 ?kK ?kd ?ku ?kp ?_; walk_at "mine call"; intro t9 h9 tk9 F9 N9; (try dsimp only); (try k_fold)))
  k_with "call builtin:str.join" => (k_here; k_dflt (refine my_joinS (News.isList (by k_asm) (by k_mem)) (by assumption) (by omega) ?_; intro t4 k4 l4; (try dsimp only)))
  k_with "compareOp Eq ref ref" => (k_here; k_dflt (refine my_eq (by k_asm) (by k_mem) (by k_mem) (back_eq1 x) (back_eq2 x) (strOk_good (pair_good1 (back_good hg))) (strOk_good (pair_good2 (back_good hg))) (by walk_at "mine room") ?_))
  unfold Gives; k_fill
  intro mean mg mb dp un gd cn cs a ccd cl outer A₀ base h₀ L m news s Q E B F X N T hk hd hu hpre hret
  have hc := comment_len hx
  walk_at "mine enter"
  k_steps
  · rename (S (comment (C x)) != S (comment (C x))) = true => hne; simp at hne
  · exact (back_ne (by assumption)).elim
  · exact endB hret (by assumption) (by assumption) (by kcf_all) rfl
end
end Mine

namespace Mine
section
variable {w : World} {f : Addr} {d : Nat} {vs : List Value} {Pre : List (Addr × Obj) → Prop} {mean : ExcName → Option Value} {mg mb : Str → Option Value} {dp un : Nat} {gd : Option (List Code)} {cn : Str} {cs : Scope} {a : Addr} {ccd : Value} {cl : List (Str × Addr)} {outer : List Env} {A₀ : Around} {base h₀ : Heap} {L : Addr} {m : Str → Option Value} {news : List (Addr × Obj)} {s : Shared} {Q E : Value → Shared → Prop}
theorem usePage (G : Gives w f d vs Pre OutPage) (B : Below A₀ base outer h₀) (F : Fr h₀ L s.heap m) (X : (hd.heap_39 w.params).In h₀) (N : News h₀ L s.heap news) (T : Top hd.view_39 (looseW hd.view_39 []) mean mg mb h₀) (hk : cs.kind = .function) (hd : dp + d < recursionLimit) (hu : un + 8 * d < cLine) (hp : Pre news)
    (ret : ∀ y t h' tk', Good (C y) → y.length ≤ 100 → Fr h₀ L h' m → News h₀ L h' news → Q (.str y t) { s with heap := h', toks := tk' }) :
    wpAny (model PySem.Challenge.rw_mq0070_01.row.prog w) (ktrTop dp un gd cn cs L a ccd cl outer) (call (.ref f) vs) Q E s :=
  G _ _ _ _ _ _ _ _ _ _ _ _ _ _ _ _ _ _ _ _ _ B F X N T hk hd hu hp fun v new h' tk' F' N' _ ho => by obtain ⟨rfl, y, t, rfl, hg, hl⟩ := ho; exact ret y t h' tk' hg hl F' N'
end
section
variable {prog : Program} {w : World} {A : Around} {E : Value → Shared → Prop} {s : Shared} {h₀ : Heap} {L : Addr} {m : Str → Option Value} {news : List (Addr × Obj)} {Q : Value → Shared → Prop} {t u : Tok}
theorem my_splitC {x : Str} (hx : x.length ≤ 90000) (hF : Fr h₀ L s.heap m) (hN : News h₀ L s.heap news)
    (h : ∀ D vs h' k, StrsAre vs ((lines (C x)).map S) → Fr h₀ L h' m → News h₀ L h' ((D, listOf vs.toArray 0) :: news) → (∀ p ∈ news, p.1 < D) → Q (.ref D) { s with heap := h', toks := k }) :
    wpAny (model prog w) A (call (.builtin "str.split") [.str x t, .str (Str.ofString "\n") u]) Q E s :=
  KSpl.split1 hF hN (by decide +kernel) (fun D vs h' k e a F' N' lt => h D _ h' k (by rw [← split_lines, S_C, ← e]; exact a) F' N' lt) (by rw [PySem.sizeLine_eq]; omega)
end
theorem lines_eachS (x : Str) : ∀ z ∈ (lines (C x)).map S, z.length ≤ x.length := by
  intro z hz
  obtain ⟨b, hb, rfl⟩ := List.mem_map.mp hz
  have := lines_each _ _ hb; rw [C_length] at this; exact this
theorem lines_goodS {x : Str} (h : Good (C x)) : ∀ z ∈ (lines (C x)).map S, Good (C z) := by
  intro z hz
  obtain ⟨b, hb, rfl⟩ := List.mem_map.mp hz
  exact lines_good h b hb
theorem lines_countS (x : Str) : ((lines (C x)).map S).length ≤ x.length + 1 := by
  have := lines_count (C x); rw [C_length] at this; simpa using this
theorem comment_join (x : Str) : Txt.join (Str.ofString "\n") (((lines (C x)).map S).map fun r => S (cm (cut (C r)))) = S (comment (C x)) := by
  unfold comment rows
  rw [← joinN_join]
  simp [Function.comp_def, C_S]
theorem cmc_each {x : Str} {n : Nat} (h : x.length ≤ n) : ∀ y ∈ ((lines (C x)).map S).map (fun r => S (cm (cut (C r)))), y.length ≤ n + 2 := by
  intro y hy
  obtain ⟨z, hz, rfl⟩ := List.mem_map.mp hy
  have h1 := lines_eachS x z hz
  have h2 := cm_len (S (cut (C z)))
  have h3 := cutS_len (Nat.le_refl z.length)
  rw [C_S] at h2; omega
theorem my_joinC {prog : Program} {w : World} {A : Around} {E : Value → Shared → Prop} {s : Shared} {t : Tok} {Q : Value → Shared → Prop} {D : Addr} {vs : List Value} {x : Str} (hl : s.heap.IsList D vs.toArray) (hi : StrsAre vs (((lines (C x)).map S).map fun r => S (cm (cut (C r))))) (hx : x.length ≤ 3000)
    (h : ∀ t' k, Q (.str (S (comment (C x))) t') { s with toks := k }) : wpAny (model prog w) A (call (.builtin "str.join") [.str (Str.ofString "\n") t, .ref D]) Q E s := by
  refine my_join 3002 3001 hl hi (fun y hy => cmc_each hx y hy) (by rw [List.length_map]; exact Nat.le_trans (lines_countS x) (by omega)) (by omega) fun t' k => ?_
  rw [comment_join]; exact h t' k
end Mine
namespace Mine
theorem my_joinC' {prog : Program} {w : World} {A : Around} {E : Value → Shared → Prop} {s : Shared} {t : Tok} {Q : Value → Shared → Prop} {D : Addr} {vs : List Value} {x : Str} {n : Nat} (hl : s.heap.IsList D vs.toArray) (hi : StrsAre vs (((lines (C x)).map S).map fun r => S (cm (cut (C r))))) (hx : x.length ≤ n) (hg : Good (C x)) (hn : n ≤ 3000)
    (h : ∀ t' k, (S (comment (C x))).length ≤ 3 * n + 2 → Good (C (S (comment (C x)))) → Q (.str (S (comment (C x))) t') { s with toks := k }) : wpAny (model prog w) A (call (.builtin "str.join") [.str (Str.ofString "\n") t, .ref D]) Q E s :=
  my_joinC hl hi (Nat.le_trans hx hn) fun t' k => h t' k (comment_len hx) (comment_good hg)
theorem lines_szS {x : Str} {vs : List Value} (hi : StrsAre vs ((lines (C x)).map S)) (hx : x.length ≤ 3000) : vs.toArray.size ≤ sizeLine := by
  rw [PySem.sizeLine_eq, List.size_toArray, strs_len hi]
  have := lines_countS x; omega
end Mine
namespace Mine
theorem rep3_back' (x : Str) : rep3 (Str.ofString "\n" ++ S (comment (C x))) = S (back (C x)) := rep3_back
theorem back_comment (l : List Nat) : back (comment l) = 10 :: comment l := by unfold back; rw [comment_rows]
theorem back_step (x : Str) : S (back (C (S (comment (C x))))) = Str.ofString "\n" ++ S (comment (C x)) := by
  rw [C_S, back_comment, nl_S]
theorem law_end2 (x : Str) : rep3 (rep3 (Str.ofString "\n" ++ S (comment (C (S (comment (C x))))))) = Str.ofString "\n" ++ S (joinN (rows (C x))) := by
  rw [rep3_back', back_step, rep3_back', back, nl_S]
theorem law_end3 (x : Str) : rep3 (rep3 (rep3 (Str.ofString "\n" ++ S (comment (C (S (comment (C (S (comment (C x)))))))))) ) = Str.ofString "\n" ++ S (joinN (rows (C x))) := by
  rw [rep3_back', back_step, rep3_back', back_step, rep3_back', back, nl_S]
theorem eq_str_true {prog : Program} {w : World} {A : Around} {E : Value → Shared → Prop} {s : Shared} {Q : Value → Shared → Prop} {a b : Str} {t u : Tok} (e : a = b) (h : Q (.bool true) s) : wpAny (model prog w) A (compareOp .Eq (.str a t) (.str b u)) Q E s := by
  subst e
  refine eq_str ?_
  rw [beq_self_eq_true]; exact h
end Mine
namespace Mine
theorem my_add {prog : Program} {w : World} {A : Around} {E : Value → Shared → Prop} {s : Shared} {t u : Tok} {Q : Value → Shared → Prop} {x : Str} (hx : x.length ≤ 90000) (h : ∀ t' tk, Q (.str (Str.ofString "\n" ++ x) t') { s with toks := tk }) : wpAny (model prog w) A (binaryOp .Add (.str (Str.ofString "\n") t) (.str x u)) Q E s :=
  PyProof.Rows.add_str h (by rw [PySem.sizeLine_eq, show (Str.ofString "\n").length = 1 by decide +kernel]; omega)
end Mine

namespace Mine
section
local macro_rules | `(tactic| walk_at "mine enter") => `(tactic| (refine wpAny_call ?_; k_dflt cell_enter))
local macro_rules | `(tactic| walk_at "mine enterC") => `(tactic| (refine wpAny_call ?_; k_dflt (refine' code_defC ?k1 ?k2 ?k3 ?k4 ?k5 ?kA ?kF ?kK ?k6 ?k7 ?k8 ?k9 ?kB ?kD ?_ ?c2 ?c3 ?c4; (case kA => exact rfl); (case kF => exact rfl); (case kK => assumption); (case k1 => k_asm); (case k2 => k_asm); (case k3 => k_asm); (case k4 => k_asm); (case k5 => k_asm); (case k6 => k_is); (case k7 => k_is); (case k8 => ktr_room); (case k9 => exact BindsTo.of_eq rfl); (case kB => exact rfl); (case kD => decide +kernel); (case c2 => exact rfl); (case c3 => exact rfl); (case c4 => exact rfl); k_whole; intro g' L' h' tk' cells' FG' F' N' Y' B' X' T' l1; (try k_lt l1); k_cells Y'; (try simp only [List.cons_append, List.nil_append] at N'); (try dsimp only); (try k_lift B'); (try k_fold))))
local macro_rules | `(tactic| walk_at "CompSrcT") => `(tactic| k_extra "CompSrcT")
local macro_rules | `(tactic| walk_at "CompSrc") => `(tactic| k_extra "CompSrc")
local macro_rules | `(tactic| walk_at "CompEnd") => `(tactic| k_extra "CompEnd")
local macro_rules | `(tactic| walk_at "KPfDone") => `(tactic| k_extra "KPfDone")
local macro_rules | `(tactic| walk_at "call ref") => `(tactic| k_extra "call ref")
local macro_rules | `(tactic| walk_at "eval ListComp") => `(tactic| k_extra "eval ListComp")
local macro_rules | `(tactic| walk_at "mine call") => `(tactic| (
  (case k1 => first | k_asm | fail "B")
  (case k2 => first | k_asm | fail "F")
  (case k3 => first | k_asm | fail "X")
  (case k4 => first | k_asm | fail "N")
  (case k5 => first | k_asm | fail "T")
  (case kK => first | exact rfl | assumption | fail "K")
  (case kd => first | ktr_room | fail "room")
  (case ku => first | ktr_units | fail "units")
  (case kp => first | exact True.intro | fail "pre")))
local macro_rules | `(tactic| walk_at "mine off") => `(tactic| first | assumption | exact off_of_lt (by assumption) | exact off_of_allLt (by assumption) | exact And.right (by assumption) | exact off_of_allLt (And.right (by assumption)) | exact off_of_allLt (And.right (And.right (by assumption))))
local macro_rules | `(tactic| walk_at "mine comp") => `(tactic| (k_here; k_dflt (refine LCg.ListComp_U (F₀ := by k_asm) (by with_unfolding_all rfl) (by decide) (by rfl) (by decide) (by rfl) ?_)))
local macro_rules | `(tactic| walk_at "mine room") => `(tactic| (have hcL9 := cLine_is; (try simp only [units_in1, units_deeper, Around.mark_units, units_caller] at *); (try dsimp only [ktrTop] at *); omega))
local macro_rules | `(tactic| walk_at "compareOp NotEq ref ref") => `(tactic| k_extra "compareOp NotEq ref ref")
local macro_rules | `(tactic| walk_at "compareOp Eq ref ref") => `(tactic| k_extra "compareOp Eq ref ref")
local macro_rules | `(tactic| walk_at "call builtin:str.join") => `(tactic| k_extra "call builtin:str.join")
local macro_rules | `(tactic| walk_at "call builtin:str.split") => `(tactic| k_extra "call builtin:str.split")
local macro_rules | `(tactic| walk_at "storeName") => `(tactic| k_extra "storeName")
local macro_rules | `(tactic| walk_at "mine call0") => `(tactic| (
  (case k1 => first | k_asm | fail "B")
  (case k2 => first | k_asm | fail "F")
  (case k3 => first | k_asm | fail "X")
  (case k4 => first | k_asm | fail "N")
  (case k5 => first | k_asm | fail "T")
  (case kK => first | exact rfl | assumption | fail "K")
  (case kd => first | ktr_room | fail "room")
  (case ku => first | ktr_units | fail "units")))
theorem c_page' (w : World) (l : Addr) (vs : List Value) (ns : List Int) (n : Nat) (hi : IntsAre vs ns) (h1 : 0 < ns.length) (h12 : ns.length ≤ 12) : Gives w 47 1 [.ref l] (fun news => (l, listOf vs.toArray n) ∈ news) OutPage := by
  cases hi with
  | nil => simp at h1
  | cons n0 t0 r => exact c_page w l n0 t0 _ _ n (.cons n0 t0 r) (by simp only [List.length_cons] at h12; omega)
theorem c_pageE (w : World) (l : Addr) (t0 t1 t2 t3 t4 t5 t6 t7 t8 t9 t10 t11 : Tok) (n : Nat) : Gives w 47 1 [.ref l] (fun news => (l, listOf [.int 1 t0, .int 3 t1, .int 6 t2, .int 7 t3, .int 14 t4, .int 8 t5, .int 0 t6, .int 9 t7, .int 2 t8, .int 13 t9, .int 5 t10, .int 12 t11].toArray n) ∈ news) OutPage :=
  c_page' w l _ [1, 3, 6, 7, 14, 8, 0, 9, 2, 13, 5, 12] n (.cons 1 t0 (.cons 3 t1 (.cons 6 t2 (.cons 7 t3 (.cons 14 t4 (.cons 8 t5 (.cons 0 t6 (.cons 9 t7 (.cons 2 t8 (.cons 13 t9 (.cons 5 t10 (.cons 12 t11 .nil)))))))))))) (by decide) (by decide)
theorem nl_le {x : Str} {n : Nat} (h : x.length + 1 ≤ n) : (Str.ofString "\n" ++ x).length ≤ n := by
  rw [PySem.Str.length_append, show (Str.ofString "\n").length = 1 by decide +kernel]; omega
theorem two_times {prog : Program} {w : World} {A : Around} {Q : Unit → Shared → Prop} {E : Value → Shared → Prop} {s : Shared} {env : Env} {n : Str} {k : Int} {t : Tok} (h2 : wpAny (model prog w) A (storeName env n (.int 2 t)) Q E s) (h3 : wpAny (model prog w) A (storeName env n (.int 3 t)) Q E s) : wpAny (model prog w) A (storeName env n (.int (Int.fmod k 2 + 2) t)) Q E s := by
  have h0 := fmod_lo k (n := 2) (by decide)
  have h1 := fmod_hi k (n := 2) (by decide)
  have : Int.fmod k 2 = 0 ∨ Int.fmod k 2 = 1 := by omega
  rcases this with e | e
  · rw [e]; exact h2
  · rw [e]; exact h3
theorem three_times {prog : Program} {w : World} {A : Around} {Q : Unit → Shared → Prop} {E : Value → Shared → Prop} {s : Shared} {env : Env} {n : Str} {v : Int} {t : Tok} (e : v = 3) (h3 : wpAny (model prog w) A (storeName env n (.int 3 t)) Q E s) : wpAny (model prog w) A (storeName env n (.int v t)) Q E s := by rw [e]; exact h3
local macro_rules | `(tactic| walk_at "mine page") => `(tactic| (k_dflt (refine' usePage (c_page' _ _ _ _ _ ?hi ?h1 ?h12) ?k1 ?k2 ?k3 ?k4 ?k5 ?kK ?kd ?ku ?kp ?_; (case k1 => k_asm); (case k2 => k_asm); (case k3 => k_asm); (case k4 => k_asm); (case k5 => k_asm); (case kK => exact rfl); (case kd => ktr_room); (case ku => ktr_units); (case kp => ((try dsimp only); k_mem)); (case hi => first | assumption | (repeat (first | exact IntsAre.nil | refine IntsAre.cons _ _ ?_)) | l_ints); (case h1 => first | decide | (simp only [List.length_take]; omega)); (case h12 => first | decide | (simp only [List.length_take]; omega)))))
local macro_rules | `(tactic| walk_at "mine pageE") => `(tactic| (k_dflt (refine' usePage (c_pageE _ _ _ _ _ _ _ _ _ _ _ _ _ _ _ ) ?k1 ?k2 ?k3 ?k4 ?k5 ?kK ?kd ?ku ?kp ?_; (case k1 => k_asm); (case k2 => k_asm); (case k3 => k_asm); (case k4 => k_asm); (case k5 => k_asm); (case kK => exact rfl); (case kd => ktr_room); (case ku => ktr_units); (case kp => ((try dsimp only); k_mem)))))
local macro_rules | `(tactic| walk_at "mine back") => `(tactic| (k_dflt (refine' useB (c_back _ _ _ _ _ _ _ _ _ _ _ _ ?hx ?hg) ?k1 ?k2 ?k3 ?k4 ?k5 ?kK ?kd ?ku ?kp ?_; (case k1 => k_asm); (case k2 => k_asm); (case k3 => k_asm); (case k4 => k_asm); (case k5 => k_asm); (case kK => exact rfl); (case kd => ktr_room); (case ku => ktr_units); (case kp => ((try dsimp only); k_mem)); (case hx => omega); (case hg => assumption))))
local macro_rules | `(tactic| walk_at "compareOp Eq str str") => `(tactic| k_extra "compareOp Eq str str")
local macro_rules | `(tactic| walk_at "subscriptTail") => `(tactic| (k_here; (with_reducible show wpAny _ _ (subscriptTail (PySem.Expr.BoolOp _ _ _) _ _ _) _ _ _); k_dflt (refine kba_turn (value' := PySem.Expr.Name (PySem.Str.ofString "_") ⟨0, 0, 0, 0⟩) (fun _ => rfl) ?_)))
local macro_rules | `(tactic| walk_at "binaryOp Add str str") => `(tactic| (k_here; (with_reducible show wpAny _ _ (binaryOp Operator.Add (Value.str (Str.ofString "\n") _) (Value.str _ _)) _ _ _); refine my_add (by omega) ?_; intro _ _))
local macro_rules | `(tactic| walk_at "callWith") => `(tactic| (k_here; (with_reducible show wpAny _ _ (callWith _ (Prod.fst _) _ _ _) _ _ _); k_dflt (refine callWith_method1 ?_)))
theorem law_holds : PySem.Challenge.rw_mq0070_01.Holds := hd (by
  k_with_none
  k_with "call ref" => (k_here; (with_reducible show wpAny _ _ (call (Value.ref 47) [Value.ref _]) _ _ _); walk_at "mine page"; intro y9 t9 h9 tk9 g9 l9 F9 N9; (try dsimp only); (try k_fold))
  k_with "call ref" => (k_here; (with_reducible show wpAny _ _ (call (Value.ref 47) [Value.ref _]) _ _ _); walk_at "mine pageE"; intro y9 t9 h9 tk9 g9 l9 F9 N9; (try dsimp only); (try k_fold))
  k_with "storeName" => (k_here; (with_reducible show wpAny _ _ (storeName _ _ (Value.int (Int.fmod _ 2 + 2) _)) _ _ _); (first | (refine three_times (by decide) ?_) | (refine two_times ?_ ?_)) <;> (try dsimp only))
  k_with "eval ListComp" => (walk_at "mine comp")
  k_with "call builtin:str.split" => (k_here; k_dflt (refine my_splitC (by omega) (by k_asm) (by k_asm) ?_; intro D8 vs8 h8 k7 i8 F8 N8 o8; (try k_lt o8); (try dsimp only); (try k_fold)))
  k_with "CompSrc" => (k_here; k_dflt (refine LCg.CompSrc.ledger (by rfl) (by k_asm) (by k_asm) (by k_mem) (lines_szS (by assumption) (by omega)) ?_; intro g7; (refine' ms_rest (fun r => S (cm (cut (C r)))) (by assumption) (fun k' t' I' oI' C' oC' D' m' ys' h' tk' E' hk' hC' hx' F' N' off' ne' hM' => ?_) (fun ys8 hy8 => ?_)); (all_goals (try (have hz7 := lines_eachS _ _ hk'; have hw7 := lines_goodS (by assumption) _ hk'))); kcf_last))
  k_with "call ref" => (k_here; (with_reducible show wpAny _ _ (call (Value.ref 35) [Value.str _ _]) _ _ _); k_dflt (refine' useS (c_comment_line _ _ _ (by omega) (by assumption)) ?k1 ?k2 ?k3 ?k4 ?k5 ?kK ?kd ?ku ?kp ?_; walk_at "mine call"; intro t6 h6 tk6 F6 N6; (try dsimp only); (try k_fold)))
  k_with "CompEnd" => (k_dflt (refine LCg.CompEnd.intro (by assumption) (by assumption) _ (fun p hp => hp) (by assumption) (Or.inr ⟨_, by k_mem, rfl, _, rfl⟩) ?_; exact ms_el rfl))
  k_with "call builtin:str.join" => (k_here; k_dflt (refine my_joinC' (News.isList (by k_asm) (by k_mem)) (by assumption) (by assumption) (by assumption) (by omega) ?_; intro t5 k5 l5 g5; (try dsimp only)))
  k_with "call ref" => (k_here; (with_reducible show wpAny _ _ (call (Value.ref 99) [Value.str _ _]) _ _ _); k_dflt (refine' useB (c_fits _ _ _ (by omega) (by assumption)) ?k1 ?k2 ?k3 ?k4 ?k5 ?kK ?kd ?ku ?kp ?_; walk_at "mine call"; intro h6 tk6 F6 N6; (try dsimp only); (try k_fold)))
  k_with "call ref" => (k_here; (with_reducible show wpAny _ _ (call (Value.ref 106) _) _ _ _); walk_at "mine back"; intro h6 tk6 F6 N6; (try dsimp only); (try k_fold))
  k_with "call ref" => (k_here; (with_reducible show wpAny _ _ (call (Value.ref 28) [_, _, _, _, _, _, _, _, _, _, _, _, _]) _ _ _); k_dflt (refine' useS (c_rep2 _ _ _ _ _ _ _ _ _ _ _ _ _ _ _ (nl_le (by omega))) ?k1 ?k2 ?k3 ?k4 ?k5 ?kK ?kd ?ku ?kp ?_; walk_at "mine call"; intro t6 h6 tk6 F6 N6; (try dsimp only); (try k_fold)))
  k_with "call ref" => (k_here; (with_reducible show wpAny _ _ (call (Value.ref 28) [_, _, _, _, _, _, _, _, _, _, _, _, _, _, _, _, _, _, _]) _ _ _); k_dflt (refine' useS (c_rep3 _ _ _ _ _ _ _ _ _ _ _ _ _ _ _ _ _ _ _ _ _ (nl_le (by omega))) ?k1 ?k2 ?k3 ?k4 ?k5 ?kK ?kd ?ku ?kp ?_; walk_at "mine call"; intro t6 h6 tk6 F6 N6; (try dsimp only); (try k_fold)))
  k_with "call ref" => (k_here; (with_reducible show wpAny _ _ (call (Value.ref 66) [Value.str _ _]) _ _ _); k_dflt (refine' useL (c_rows _ _ _ (by omega)) ?k1 ?k2 ?k3 ?k4 ?k5 ?kK ?kd ?ku ?kp ?_; walk_at "mine call"; intro D6 vs6 n6 h6 tk6 F6 N6 o6 i6; (try simp only [LCg.Off1, and_true] at o6); (try dsimp only); (try k_fold)))
  k_with "call builtin:str.join" => (k_here; k_dflt (refine my_joinS (News.isList (by k_asm) (by k_mem)) (by assumption) (by omega) ?_; intro t4 k4 l4; (try dsimp only)))
  k_with "compareOp Eq str str" => (k_here; first | refine eq_str_true (law_end2 _) ?_ | refine eq_str_true (law_end3 _) ?_)
  w_strict (k_go0; (all_goals try k_fold); k_steps))
end
end Mine

theorem PySem.Challenge.cw_mq0070_01_holds : PySem.Challenge.rw_mq0070_01.Holds :=
  Mine.law_holds
