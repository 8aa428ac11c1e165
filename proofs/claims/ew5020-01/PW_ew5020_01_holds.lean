import PyProof.Rows.All
import Wide.All
import OpenK.AllK
import Wide.FinOn
import PySem.Challenge.RW_ew5020_01
open PySem PySem.W PyProof.Rows
set_option Elab.async false
set_option maxRecDepth 100000
set_option maxHeartbeats 8000000
open_top Mine.hd for PySem.Challenge.rw_ew5020_01
namespace Mine
def Mark (_ : Nat) (P : Prop) : Prop := P
theorem Mark.on {n : Nat} {P : Prop} (h : Mark n P) : P := h
theorem Mark.off {n : Nat} {P : Prop} (h : P) : Mark n P := h

/-- a tree that the walk is to leave standing -/
def Held (_ : Nat) {α : Type} (t : Sem α) : Sem α := t
theorem Held.on {n : Nat} {α : Type} {M : Model} {A : Around} {t : Sem α} {Q : α → Shared → Prop} {E : Value → Shared → Prop} {s : Shared} (h : wpAny M A (Held n t) Q E s) : wpAny M A t Q E s := h
theorem Held.off {n : Nat} {α : Type} {M : Model} {A : Around} {t : Sem α} {Q : α → Shared → Prop} {E : Value → Shared → Prop} {s : Shared} (h : wpAny M A t Q E s) : wpAny M A (Held n t) Q E s := h
/-- the sign's number at a place -/
def cd (t : Str) (i : Int) : Nat := t.cps.getD i.toNat 0
theorem item_cd {t : Str} {i : Int} (h0 : 0 ≤ i) (h1 : i < t.length) : Txt.item t i = ⟨#[cd t i]⟩ := by
  have h2 : i.toNat < t.cps.size := by
    have : t.length = t.cps.size := rfl
    omega
  refine item_meets h0 ?_
  rw [cd, Array.getD_eq_getD_getElem?, Array.getElem?_eq_getElem h2]
  rfl
theorem occ_item {t lit : Str} {i : Int} (L : List Nat) (hL : lit.cps.toList = L) (h0 : 0 ≤ i) (h1 : i < t.length) :
    (Builtin.Str.occurrences lit (Txt.item t i) 0 lit.length 1).isEmpty = !decide (cd t i ∈ L) := by
  rw [item_cd h0 h1, ← hL, ← StrLaws.found_one, Bool.not_not]
theorem one_eq {c d : Nat} : ((⟨#[c]⟩ : Str) = ⟨#[d]⟩) ↔ c = d := by
  constructor
  · intro h
    have := congrArg (fun s : Str => s.cps.toList) h
    simpa using this
  · rintro rfl; rfl

theorem f_in {t lit : Str} {i : Int} {L : List Nat} (hL : lit.cps.toList = L) (h : (Builtin.Str.occurrences lit (Txt.item t i) 0 lit.length 1).isEmpty = false) (h0 : 0 ≤ i) (h1 : i < t.length) : cd t i ∈ L := by
  rw [occ_item L hL h0 h1] at h
  simpa using h
theorem f_out {t lit : Str} {i : Int} {L : List Nat} (hL : lit.cps.toList = L) (h : (Builtin.Str.occurrences lit (Txt.item t i) 0 lit.length 1).isEmpty = true) (h0 : 0 ≤ i) (h1 : i < t.length) : cd t i ∉ L := by
  rw [occ_item L hL h0 h1] at h
  simpa using h
theorem item_eq {t lit : Str} {i : Int} {c : Nat} (hl : lit = ⟨#[c]⟩) (h0 : 0 ≤ i) (h1 : i < t.length) : (Txt.item t i == lit) = decide (cd t i = c) := by
  rw [item_cd h0 h1, hl, Bool.eq_iff_iff, beq_iff_eq, one_eq, decide_eq_true_eq]
theorem f_eq {t lit : Str} {i : Int} {c : Nat} (hl : lit = ⟨#[c]⟩) (h : (Txt.item t i == lit) = true) (h0 : 0 ≤ i) (h1 : i < t.length) : cd t i = c := by
  rw [item_eq hl h0 h1] at h; simpa using h
theorem f_ne {t lit : Str} {i : Int} {c : Nat} (hl : lit = ⟨#[c]⟩) (h : (Txt.item t i == lit) = false) (h0 : 0 ≤ i) (h1 : i < t.length) : cd t i ≠ c := by
  rw [item_eq hl h0 h1] at h; simpa using h
theorem f_nt {t lit : Str} {i : Int} {c : Nat} (hl : lit = ⟨#[c]⟩) (h : (Txt.item t i != lit) = true) (h0 : 0 ≤ i) (h1 : i < t.length) : cd t i ≠ c := by
  refine f_ne hl ?_ h0 h1
  simpa [bne] using h
theorem f_nf {t lit : Str} {i : Int} {c : Nat} (hl : lit = ⟨#[c]⟩) (h : (Txt.item t i != lit) = false) (h0 : 0 ≤ i) (h1 : i < t.length) : cd t i = c := by
  refine f_eq hl ?_ h0 h1
  simpa [bne] using h
theorem s_colon : Str.ofString ":" = ⟨#[58]⟩ := by decide +kernel
theorem s_dot : Str.ofString "." = ⟨#[46]⟩ := by decide +kernel
theorem s_pct : Str.ofString "%" = ⟨#[37]⟩ := by decide +kernel
theorem s_bsl : Str.ofString "\\" = ⟨#[92]⟩ := by decide +kernel
theorem s_nl : Str.ofString "\n" = ⟨#[10]⟩ := by decide +kernel
theorem s_sp : Str.ofString " " = ⟨#[32]⟩ := by decide +kernel
theorem s_tab : Str.ofString "\t" = ⟨#[9]⟩ := by decide +kernel
theorem s_hash : Str.ofString "#" = ⟨#[35]⟩ := by decide +kernel
theorem s_cr : Str.ofString "\r" = ⟨#[13]⟩ := by decide +kernel
theorem item_is {t lit : Str} {i : Int} {c : Nat} (hl : lit = ⟨#[c]⟩) (h0 : 0 ≤ i) (h1 : i < t.length) : (Txt.item t i = lit) ↔ cd t i = c := by
  rw [item_cd h0 h1, hl, one_eq]
def Plain (t : Str) (i : Int) : Prop := cd t i ≠ 32 ∧ cd t i ≠ 9 ∧ cd t i ≠ 35 ∧ cd t i ≠ 13 ∧ cd t i ≠ 10
theorem blank2 {t : Str} {i : Int} (h : (false || decide (Txt.item t i = Str.ofString " ") || decide (Txt.item t i = Str.ofString "\t")) = true) (h0 : 0 ≤ i) (h1 : i < t.length) : cd t i = 32 ∨ cd t i = 9 := by
  simpa [item_is s_sp h0 h1, item_is s_tab h0 h1] using h
theorem blank2n {t : Str} {i : Int} (h : (false || decide (Txt.item t i = Str.ofString " ") || decide (Txt.item t i = Str.ofString "\t")) = false) (h0 : 0 ≤ i) (h1 : i < t.length) : cd t i ≠ 32 ∧ cd t i ≠ 9 := by
  simpa [item_is s_sp h0 h1, item_is s_tab h0 h1] using h
theorem line3 {t : Str} {i : Int} (h : (false || decide (Txt.item t i = Str.ofString "#") || decide (Txt.item t i = Str.ofString "\r") || decide (Txt.item t i = Str.ofString "\n")) = true) (h0 : 0 ≤ i) (h1 : i < t.length) : cd t i = 35 ∨ cd t i = 13 ∨ cd t i = 10 := by
  simp only [Bool.false_or, item_is s_hash h0 h1, item_is s_cr h0 h1, item_is s_nl h0 h1, Bool.or_eq_true, decide_eq_true_eq] at h
  omega
theorem line3n {t : Str} {i : Int} (h : (false || decide (Txt.item t i = Str.ofString "#") || decide (Txt.item t i = Str.ofString "\r") || decide (Txt.item t i = Str.ofString "\n")) = false) (h0 : 0 ≤ i) (h1 : i < t.length) : cd t i ≠ 35 ∧ cd t i ≠ 13 ∧ cd t i ≠ 10 := by
  simp only [Bool.false_or, item_is s_hash h0 h1, item_is s_cr h0 h1, item_is s_nl h0 h1, Bool.or_eq_false_iff, decide_eq_false_iff_not] at h
  omega
def blanksL : List Nat := [32, 9, 10]
def numL : List Nat := [48, 49, 50, 51, 52, 53, 54, 55, 56, 57, 45, 43, 46]
def stopsL : List Nat := [9, 13, 10, 32, 33, 34, 35, 36, 38, 39, 40, 41, 42, 43, 44, 47, 59, 60, 61, 62, 63, 64, 91, 92, 93, 94, 96, 123, 124, 125, 126]
def hexL : List Nat := [48, 49, 50, 51, 52, 53, 54, 55, 56, 57, 97, 98, 99, 100, 101, 102, 65, 66, 67, 68, 69, 70]
def hexL2 : List Nat := [65, 66, 67, 68, 69, 70, 97, 98, 99, 100, 101, 102, 48, 49, 50, 51, 52, 53, 54, 55, 56, 57]
def escL : List Nat := [40, 95, 126, 46, 45, 33, 36, 38, 39, 40, 41, 42, 43, 44, 59, 61, 47, 63, 35, 64, 37, 41]
def numL2 : List Nat := numL
theorem lit_blanks : (Str.ofString " \t\n").cps.toList = blanksL := by decide +kernel
theorem lit_num : (Str.ofString "0123456789-+.").cps.toList = numL := by decide +kernel
theorem lit_stops : (Str.ofString "\t\r\n !\"#$&'()*+,/;<=>?\x40[\\]^`{|}~").cps.toList = stopsL := by decide +kernel
theorem lit_stops2 : (Str.ofString "\t\r\n !\"#$&'()*+,/;<=>?\x40[\\]^`{|}~:").cps.toList = stopsL ++ [58] := by decide +kernel
theorem lit_hex : (Str.ofString "0123456789abcdefABCDEF").cps.toList = hexL := by decide +kernel
theorem lit_hex2 : (Str.ofString "ABCDEFabcdef0123456789").cps.toList = hexL2 := by decide +kernel
theorem lit_esc : (Str.ofString "(_~.-!$&'()*+,;=/?#@%)").cps.toList = escL := by decide +kernel

/-- the first place from i on that P takes; k places are looked at -/
def firstI (P : Int → Bool) : Nat → Int → Int
  | 0, i => i
  | k + 1, i => if P i = true then i else firstI P k (i + 1)
theorem firstI_is {P : Int → Bool} : ∀ (k : Nat) (i e : Int), i ≤ e → e < i + k → (∀ j, i ≤ j → j < e → P j = false) → P e = true → firstI P k i = e
  | 0, i, e, h1, h2, _, _ => by omega
  | k + 1, i, e, h1, h2, h3, h4 => by
    unfold firstI
    by_cases hi : i = e
    · subst hi
      rw [if_pos h4]
    · rw [if_neg (by rw [h3 i (Int.le_refl i) (by omega)]; exact Bool.false_ne_true)]
      exact firstI_is k (i + 1) e (by omega) (by omega) (fun j a b => h3 j (by omega) b) h4

inductive Out where
  | none
  | refused (place : Int) (why : Str)
  | told (pfx loc : Str) (stop : Int)

def isStop (t : Str) (i : Int) : Bool := decide (cd t i ∈ stopsL)
def isStopC (t : Str) (i : Int) : Bool := decide (cd t i ∈ stopsL ++ [58])
def badHex (t : Str) (i : Int) : Bool := decide (cd t i = 37) && (!decide (cd t (i + 1) ∈ hexL) || !decide (cd t (i + 2) ∈ hexL))
def under : Str := Str.ofString "_"
/-- a sign that ends the local name -/
def ends (t : Str) (pfx : Str) (i : Int) : Bool := if pfx = under then isStopC t i else isStop t i
def halts (t : Str) (pfx : Str) (i : Int) : Bool := badHex t i || ends t pfx i

def localOf (t pfx : Str) (e p : Int) : Out :=
  if cd t p = 92 then .refused (p + 1) (Str.ofString "illegal escape " ++ Txt.item t (p + 1))
  else if badHex t p = true then .refused p (Str.ofString "illegal hex escape %")
  else
    let stop := if cd t (p - 1) = 46 then p - 1 else p
    .told pfx (Txt.slice t (some (e + 1)) (some stop)) stop
def endOf (t : Str) (at' e : Int) : Int := if at' < e ∧ cd t (e - 1) = 46 then e - 1 else e
def readAt (t : Str) (at' : Int) : Out :=
  if cd t at' ∈ numL then .none
  else
    let e := endOf t at' (firstI (isStopC t) t.length at')
    if cd t e = 58 then
      let pfx := Txt.slice t (some at') (some e)
      localOf t pfx e (firstI (halts t pfx) t.length (e + 1))
    else .none
def headOf (t : Str) : Int := if cd t 0 ∈ blanksL then 1 else 0
def lawRead (t : Str) : Out := readAt t (headOf t)

def OutVals (o : Out) (vs : List Value) : Prop := match o with
  | .none => ∃ k, vs = [.str (Str.ofString "none") k]
  | .refused p why => ∃ k1 k2 k3, vs = [.str (Str.ofString "refused") k1, .int p k2, .str why k3]
  | .told pfx loc stop => ∃ k1 k2 k3 k4, vs = [.str (Str.ofString "told") k1, .str pfx k2, .str loc k3, .int stop k4]
theorem read_num {t : Str} {a : Int} (h : a = headOf t) (hn : cd t a ∈ numL) : lawRead t = .none := by
  subst h; unfold lawRead readAt; rw [if_pos hn]
theorem read_nocolon {t : Str} {a e e' : Int} (h : a = headOf t) (hf : firstI (isStopC t) t.length a = e) (he : e' = endOf t a e) (hc : cd t e' ≠ 58) : lawRead t = .none := by
  subst h; subst hf; subst he; unfold lawRead readAt
  by_cases hn : cd t (headOf t) ∈ numL
  · rw [if_pos hn]
  · rw [if_neg hn]; dsimp only; rw [if_neg hc]
theorem read_colon {t : Str} {a e e' : Int} (h : a = headOf t) (hn : cd t a ∉ numL) (hf : firstI (isStopC t) t.length a = e) (he : e' = endOf t a e) (hc : cd t e' = 58) :
    lawRead t = localOf t (Txt.slice t (some a) (some e')) e' (firstI (halts t (Txt.slice t (some a) (some e'))) t.length (e' + 1)) := by
  subst h; subst hf; subst he; unfold lawRead readAt
  rw [if_neg hn]; dsimp only; rw [if_pos hc]
theorem end_ge {t : Str} {a e e' : Int} (he : e' = endOf t a e) (h : a ≤ e) : a ≤ e' ∧ e' ≤ e := by
  subst he; unfold endOf; split <;> omega
def stopsOf (pfx : Str) : List Nat := if pfx = under then stopsL ++ [58] else stopsL
theorem ends_is (t pfx : Str) (i : Int) : ends t pfx i = decide (cd t i ∈ stopsOf pfx) := by
  unfold ends stopsOf isStopC isStop
  split <;> rfl
theorem slice_under {t : Str} {a b : Option Int} (h : (Txt.slice t a b == Str.ofString "_") = true) : stopsOf (Txt.slice t a b) = stopsL ++ [58] := by
  unfold stopsOf under; rw [if_pos (beq_iff_eq.mp h)]
theorem slice_plain {t : Str} {a b : Option Int} (h : (Txt.slice t a b == Str.ofString "_") = false) : stopsOf (Txt.slice t a b) = stopsL := by
  unfold stopsOf under; rw [if_neg (by simpa using h)]
theorem lit_stops3 : (Str.ofString "\t\x0d\n !\"#$&'()*+,/;<=>?\x40[\\]^`{|}~" ++ Str.ofString ":").cps.toList = stopsL ++ [58] := by decide +kernel
theorem stops_bsl (pfx : Str) : 92 ∈ stopsOf pfx := by unfold stopsOf; split <;> decide
theorem stops_blank (pfx : Str) : 32 ∈ stopsOf pfx := by unfold stopsOf; split <;> decide
theorem stops_pct (pfx : Str) : 37 ∉ stopsOf pfx := by unfold stopsOf; split <;> decide
theorem local_bsl {t pfx : Str} {e p : Int} (h : cd t p = 92) : localOf t pfx e p = .refused (p + 1) (Str.ofString "illegal escape " ++ Txt.item t (p + 1)) := by
  unfold localOf; rw [if_pos h]
theorem local_pct {t pfx : Str} {e p : Int} (h : badHex t p = true) : localOf t pfx e p = .refused p (Str.ofString "illegal hex escape %") := by
  have h1 : cd t p ≠ 92 := by
    intro x; unfold badHex at h; rw [x] at h; simp at h
  unfold localOf; rw [if_neg h1, if_pos h]
theorem local_told {t pfx : Str} {e p q : Int} (h1 : cd t p ≠ 92) (h2 : badHex t p = false) (hq : q = if cd t (p - 1) = 46 then p - 1 else p) : localOf t pfx e p = .told pfx (Txt.slice t (some (e + 1)) (some q)) q := by
  subst hq
  unfold localOf; rw [if_neg h1, if_neg (by rw [h2]; exact Bool.false_ne_true)]
theorem halts_is (t pfx : Str) (i : Int) : halts t pfx i = (badHex t i || decide (cd t i ∈ stopsOf pfx)) := by
  unfold halts; rw [ends_is]
theorem badHex_ne {t : Str} {i : Int} (h : cd t i ≠ 37) : badHex t i = false := by
  unfold badHex; simp [h]
theorem badHex_ok {t : Str} {i : Int} (h1 : cd t (i + 1) ∈ hexL) (h2 : cd t (i + 2) ∈ hexL) : badHex t i = false := by
  unfold badHex; simp [h1, h2]
theorem badHex_1 {t : Str} {i : Int} (h : cd t i = 37) (h1 : cd t (i + 1) ∉ hexL) : badHex t i = true := by
  unfold badHex; simp [h, h1]
theorem badHex_2 {t : Str} {i : Int} (h : cd t i = 37) (h2 : cd t (i + 2) ∉ hexL) : badHex t i = true := by
  unfold badHex; simp [h, h2]
/-- the texts that are asked about: two blanks behind -/
structure Ok (t : Str) : Prop where
  len : 3 ≤ t.length
  most : t.length ≤ 100
  last : cd t ((t.length : Int) - 1) = 32
  last2 : cd t ((t.length : Int) - 2) = 32
theorem isStop_blank {t : Str} {i : Int} (h : cd t i = 32) : isStop t i = true := by
  unfold isStop; rw [h]; decide
theorem isStopC_of {t : Str} {i : Int} : isStopC t i = (isStop t i || decide (cd t i = 58)) := by
  unfold isStopC isStop
  simp [List.mem_append]
theorem isStopC_blank {t : Str} {i : Int} (h : cd t i = 32) : isStopC t i = true := by
  unfold isStopC; rw [h]; decide
theorem ends_blank {t pfx : Str} {i : Int} (h : cd t i = 32) : ends t pfx i = true := by
  unfold ends
  split
  · exact isStopC_blank h
  · exact isStop_blank h
def tNl : Str := Str.ofString "\nab:cd  "
def tCr : Str := Str.ofString "\rab:cd  "
def tHs : Str := Str.ofString "#ab:cd  "
/-- how a text begins: the place behind its blanks, the lines passed -/
inductive Start (t : Str) : Int → Int → Prop
  | plain : Plain t 0 → Start t 0 0
  | blank : cd t 0 = 32 ∨ cd t 0 = 9 → Plain t 1 → Start t 1 0
  | nl : t = tNl → Start t 1 1
  | cr : t = tCr → Start t 0 0
  | hs : t = tHs → Start t (-1) 0
theorem start_none {t : Str} {j d : Int} (h : Start t j d) (hj : j < 0) : lawRead t = .none := by
  cases h with
  | plain _ => omega
  | blank _ _ => omega
  | nl _ => omega
  | cr _ => omega
  | hs h =>
    subst h
    have h0 : headOf tHs = 0 := by decide +kernel
    refine read_nocolon (a := 0) (e := 0) (e' := 0) h0.symm (by decide +kernel) (by decide +kernel) (by decide +kernel)
theorem start_head {t : Str} {j d : Int} (h : Start t j d) (hj : 0 ≤ j) : j = headOf t := by
  cases h with
  | plain h =>
    unfold headOf
    rw [if_neg]
    intro q
    simp [blanksL] at q
    obtain ⟨h1, h2, h3, h4, h5⟩ := h
    omega
  | blank h _ =>
    unfold headOf
    rw [if_pos]
    rcases h with h | h <;> rw [h] <;> decide
  | nl h => subst h; decide +kernel
  | cr h => subst h; decide +kernel
  | hs _ => omega
theorem start_le {t : Str} {j d : Int} (h : Start t j d) : -1 ≤ j ∧ j ≤ 1 := by
  cases h <;> omega
/-- no backslash ahead of a sign that may stand there -/
def NoEsc (t : Str) : Prop := ∀ i : Int, 0 ≤ i → i < t.length → cd t i = 92 → cd t (i + 1) ∉ escL
theorem slice_nil {t : Str} {a : Int} (h0 : 0 ≤ a) (h1 : a ≤ t.length) : Txt.slice t (some a) (some a) = Str.ofString "" := by
  have h := slice_closesL (x := t) h0 (Int.le_refl a) h1
  rw [beq_iff_eq] at h
  rw [h]
  simp
  rfl
theorem nil_app (s : Str) : Str.ofString "" ++ s = s := by
  have h : Str.ofString "" = ⟨#[]⟩ := by decide +kernel
  rw [h]
  obtain ⟨a⟩ := s
  show (⟨#[] ++ a⟩ : Str) = ⟨a⟩
  rw [Array.empty_append]
theorem hex_in {c : Nat} (h : c ∈ hexL2) : c ∈ hexL := by
  simp only [hexL2, hexL, List.mem_cons, List.not_mem_nil, or_false] at *
  omega
theorem hex_out {c : Nat} (h : c ∉ hexL2) : c ∉ hexL := fun x => h (by
  simp only [hexL2, hexL, List.mem_cons, List.not_mem_nil, or_false] at *
  omega)
theorem hex_msg {t : Str} {i : Int} (h0 : 0 ≤ i) (h1 : i < t.length) (h : cd t i = 37) : Str.ofString "illegal hex escape " ++ Txt.item t i = Str.ofString "illegal hex escape %" := by
  rw [item_cd h0 h1, h]
  decide +kernel
end Mine
namespace Mine
section
variable {prog : Program} {w : World} {A : Around} {E : Value → Shared → Prop} {Q : Flow → Shared → Prop} {s : Shared} {env : Env} {h₀ : Heap} {L : Addr}

/-- a loop's state c as the frame bears it; the ledger keeps what is listed -/
def At {σ : Type} (h₀ : Heap) (L : Addr) (s : Shared) (news : List (Addr × Obj)) (ps : σ → List (Str × Value)) (stored : List Str) (m₀ : Str → Option Value) (D : σ → Prop) (s₂ : Shared) : Prop :=
  ∃ (c : σ) (h' : Heap) (tk : Nat) (m' : Str → Option Value) (news' : List (Addr × Obj)), s₂ = { s with heap := h', toks := tk } ∧ Fr h₀ L h' m' ∧ News h₀ L h' news' ∧ (∀ p ∈ news, p ∈ news') ∧ (∀ p ∈ ps c, m' p.1 = some p.2) ∧ (∀ z, (∀ p ∈ ps c, z ≠ p.1) → stored.contains z = false → m' z = m₀ z) ∧ D c
theorem At.of {σ : Type} {h₀ : Heap} {L : Addr} {s : Shared} {news news' : List (Addr × Obj)} {ps : σ → List (Str × Value)} {stored : List Str} {m₀ m' : Str → Option Value} {D : σ → Prop} {h' : Heap} {tk : Nat} (c : σ)
    (F : Fr h₀ L h' m') (N : News h₀ L h' news') (hn : ∀ p ∈ news, p ∈ news') (hk : ∀ p ∈ ps c, m' p.1 = some p.2) (hr : ∀ z, (∀ p ∈ ps c, z ≠ p.1) → stored.contains z = false → m' z = m₀ z) (hd : D c) :
    At h₀ L s news ps stored m₀ D { s with heap := h', toks := tk } := ⟨c, h', tk, m', news', rfl, F, N, hn, hk, hr, hd⟩
def TurnPost {σ : Type} (h₀ : Heap) (L : Addr) (s : Shared) (news : List (Addr × Obj)) (ps : σ → List (Str × Value)) (stored : List Str) (m₀ : Str → Option Value) (P D : σ → Prop) (μ : σ → Nat) (Q : Flow → Shared → Prop) (c : σ) (f : Flow) (s₂ : Shared) : Prop :=
  match f with
  | .ret v => Q (.ret v) s₂
  | .brk => At h₀ L s news ps stored m₀ D s₂
  | _ => At h₀ L s news ps stored m₀ (fun c' => P c' ∧ μ c' < μ c) s₂

theorem loopG {σ : Type} {test : Expr} {body : List Stmt} {pos : Pos} {m₀ : Str → Option Value} {news : List (Addr × Obj)} (ps : σ → List (Str × Value)) (stored : List Str) (P D : σ → Prop) (μ : σ → Nat) (c₀ : σ)
    (F : Fr h₀ L s.heap m₀) (N : News h₀ L s.heap news) (hk : ∀ p ∈ ps c₀, m₀ p.1 = some p.2) (hp : P c₀)
    (turn : ∀ (c : σ) (u : Str → Option Value) h tk, P c → Fr h₀ L h (kstB (fun z => if stored.contains z then u z else m₀ z) (ps c)) → News h₀ L h news →
      wpAny (model prog w) A (isTrue test env (eval test env)) (fun b s₂ =>
        if b = true then wpAny (model prog w) A (execs body env) (TurnPost h₀ L s news ps stored m₀ P D μ Q c) E s₂ else At h₀ L s news ps stored m₀ D s₂) E { s with heap := h, toks := tk })
    (rest : ∀ (c : σ) (u : Str → Option Value) h tk, D c → Fr h₀ L h (kstB (fun z => if stored.contains z then u z else m₀ z) (ps c)) → News h₀ L h news → Q .next { s with heap := h, toks := tk })
    (hE : PassesOwn (model prog w) A env E := by passes_own) :
    wpAny (model prog w) A (exec (.While test body [] pos) env) Q E s := by
  refine wpAny_mono (ksw_while (Q := fun f s₂ => match f with | .ret v => Q (.ret v) s₂ | .next => At h₀ L s news ps stored m₀ D s₂ | _ => False) (fun _ => news) ps (fun _ => True) stored P μ c₀ F N trivial hk hp ?_ hE) ?_ fun _ _ x => x
  · intro c u h tk _ hpc F₁ N₁
    refine wpAny_mono (turn c u h tk hpc F₁ N₁) (fun b s₂ p => ?_) fun _ _ x => x
    cases b with
    | false => simpa using p
    | true =>
      simp only [if_true] at p ⊢
      refine wpAny_mono p (fun f s₃ q => ?_) fun _ _ x => x
      cases f with
      | ret v => exact q
      | brk => exact q
      | next =>
        obtain ⟨c', h', tk', m', news', rfl, F', N', hn, hk', hr', hp', hm'⟩ := q
        exact ⟨c', h', tk', m', news', rfl, F', N', hn, trivial, hk', hr', hp', hm'⟩
      | cont =>
        obtain ⟨c', h', tk', m', news', rfl, F', N', hn, hk', hr', hp', hm'⟩ := q
        exact ⟨c', h', tk', m', news', rfl, F', N', hn, trivial, hk', hr', hp', hm'⟩
  · intro f s₂ q
    have go : At h₀ L s news ps stored m₀ D s₂ → Q .next s₂ := by
      rintro ⟨c, h', tk, m', news', rfl, F', N', hn, hk', hr', hd⟩
      exact rest c m' h' tk hd (ksw_fr hk' hr' F') fun p hp => N' p (hn p hp)
    cases f with
    | ret v => exact q
    | next => exact go q
    | brk => exact q.elim
    | cont => exact q.elim

theorem cutG {σ : Type} {tree : Sem Flow} {m₀ : Str → Option Value} {news : List (Addr × Obj)} (ps : σ → List (Str × Value)) (stored : List Str) (D : σ → Prop)
    (_F : Fr h₀ L s.heap m₀) (_N : News h₀ L s.heap news)
    (h : wpAny (model prog w) A tree (fun f s₂ => match f with | .next => At h₀ L s news ps stored m₀ D s₂ | f => Q f s₂) E s)
    (rest : ∀ (c : σ) (u : Str → Option Value) h tk, D c → Fr h₀ L h (kstB (fun z => if stored.contains z then u z else m₀ z) (ps c)) → News h₀ L h news → Q .next { s with heap := h, toks := tk }) :
    wpAny (model prog w) A tree Q E s := by
  refine wpAny_mono h (fun f s₂ q => ?_) fun _ _ x => x
  cases f with
  | ret v => exact q
  | next =>
    obtain ⟨c, h', tk, m', news', rfl, F', N', hn, hk', hr', hd⟩ := q
    exact rest c m' h' tk hd (ksw_fr hk' hr' F') fun p hp => N' p (hn p hp)
  | brk => exact q
  | cont => exact q
theorem kstB_one {m : Str → Option Value} {n : Str} {v : Value} : kstB m [(n, v)] = fun y => if y = n then some v else m y := by
  funext y
  simp [kstB]
/-- one name is stored, the rest of the frame stands -/
theorem cutOne {σ : Type} {tree : Sem Flow} {m₀ : Str → Option Value} {news : List (Addr × Obj)} (n : Str) (val : σ → Value) (D : σ → Prop)
    (F : Fr h₀ L s.heap m₀) (N : News h₀ L s.heap news)
    (h : wpAny (model prog w) A tree (fun f s₂ => match f with | .next => At h₀ L s news (fun c => [(n, val c)]) [] m₀ D s₂ | f => Q f s₂) E s)
    (rest : ∀ (c : σ) h tk, D c → Fr h₀ L h (fun y => if y = n then some (val c) else m₀ y) → News h₀ L h news → Q .next { s with heap := h, toks := tk }) :
    wpAny (model prog w) A tree Q E s :=
  cutG (fun c => [(n, val c)]) [] D F N h fun c u h' tk d F' N' => rest c h' tk d (by
    rw [kstB_one] at F'
    exact F') N'
end
end Mine
namespace Mine
open Builtin.Re
def eolC : Array Nat := #[14, 4, 0, 1, 4294967295, 24, 11, 0, 4294967295, 13, 6, 16, 32, 16, 9, 0, 1, 23, 16, 0, 1, 17, 0, 16, 35, 24, 6, 0, 4294967295, 20, 10, 1, 17, 1, 18, 24, 6, 0, 1, 16, 13, 1, 16, 10, 1]
def eofC : Array Nat := #[14, 4, 0, 0, 4294967295, 24, 11, 0, 4294967295, 13, 6, 16, 32, 16, 9, 0, 1, 23, 16, 0, 1, 17, 0, 16, 35, 24, 6, 0, 4294967295, 20, 10, 1, 17, 1, 18, 6, 5, 1]
def wsC : Array Nat := #[14, 4, 0, 0, 4294967295, 24, 11, 0, 4294967295, 13, 6, 16, 32, 16, 9, 0, 1, 1]
def drive : Nat → Sre.M → Option Sre.M
  | 0, _ => none
  | k + 1, m => let m := m.runFor reTurnSteps; if m.outcome.isSome = true then some m else drive k m
def badSpan (m : Sre.M) (groups : Nat) : Bool := (List.range groups).any (fun g => match m.marks.getD (2 * g) none, m.marks.getD (2 * g + 1) none with | some b, some e => ((2 * g + 1 : Nat) : Int) ≤ m.lastmark && e < b | _, _ => false)
def sees (groups : Nat) (r : Option Sre.M) (start handed : Nat) : Bool := match r with
  | some m => (match m.outcome with | some .matched => true | _ => false) && m.start == start && m.handed == handed && !badSpan m groups
  | none => false
def failsR (r : Option Sre.M) : Bool := match r with
  | some m => (match m.outcome with | some .failed => true | _ => false)
  | none => false
theorem sees_out {g a b : Nat} {r : Option Sre.M} (h : sees g r a b = true) : ∃ m, r = some m ∧ m.outcome = some .matched ∧ m.start = a ∧ m.handed = b ∧ badSpan m g = false := by
  unfold sees at h
  split at h
  · rename_i m
    simp only [Bool.and_eq_true, beq_iff_eq, Bool.not_eq_true'] at h
    obtain ⟨⟨⟨h1, h2⟩, h3⟩, h4⟩ := h
    refine ⟨m, rfl, ?_, h2, h3, h4⟩
    split at h1
    · assumption
    · cases h1
  · cases h
theorem failsR_out {r : Option Sre.M} (h : failsR r = true) : ∃ m, r = some m ∧ m.outcome = some .failed := by
  unfold failsR at h
  split at h
  · rename_i m
    refine ⟨m, rfl, ?_⟩
    split at h
    · assumption
    · cases h
  · cases h
section
variable {prog : Program} {w : World} {M : Model} {A : Around} {E : Value → Shared → Prop} {s : Shared}
theorem wp_drive {m' : Sre.M} {Q : Sre.M → Shared → Prop} : ∀ (k turns : Nat) (m : Sre.M), k ≤ turns → drive k m = some m' → Q m' s → wpAny M A (reDrive turns m) Q E s
  | 0, _, _, _, h, _ => by cases h
  | k + 1, turns + 1, m, hk, h, hQ => by
    show wpAny M A (if (m.runFor reTurnSteps).outcome.isSome = true then pure (m.runFor reTurnSteps) else do rule "sre.turn"; reDrive turns (m.runFor reTurnSteps)) Q E s
    unfold drive at h
    dsimp only at h
    by_cases c : (m.runFor reTurnSteps).outcome.isSome = true
    · rw [if_pos c] at h ⊢
      cases h
      exact wpAny_pure hQ
    · rw [if_neg c] at h ⊢
      exact wpAny_bind (wpAny_rule (wp_drive k turns _ (Nat.le_of_succ_le_succ hk) h hQ))
theorem wp_rules {f : Nat → Bool} {g : Nat → String} {Q : PUnit → Shared → Prop} (h : Q PUnit.unit s) : ∀ l : List Nat, wpAny M A (forIn l PUnit.unit fun i _ => if f i = true then do rule (g i); pure (ForInStep.yield PUnit.unit) else pure (ForInStep.yield PUnit.unit)) Q E s
  | [] => wpAny_pure h
  | i :: r => by
    rw [List.forIn_cons]
    refine wpAny_bind ?_
    have go := wp_rules (f := f) (g := g) h r
    by_cases c : f i = true
    · rw [if_pos c]
      exact wpAny_bind (wpAny_rule (wpAny_pure go))
    · rw [if_neg c]
      exact wpAny_pure go
theorem wp_run_matched {m m' : Sre.M} {Q : Option Sre.M → Shared → Prop} (h : drive 40 m = some m') (ho : m'.outcome = some .matched) (hQ : Q (some m') s) : wpAny M A (reRunToEnd m) Q E s := by
  unfold reRunToEnd
  refine wpAny_bind (wp_drive 40 (2 ^ 64) m (by decide) h ?_)
  refine wpAny_bind (wp_rules ?_ _)
  rw [ho]
  exact wpAny_pure hQ
theorem wp_run_failed {m m' : Sre.M} {Q : Option Sre.M → Shared → Prop} (h : drive 40 m = some m') (ho : m'.outcome = some .failed) (hQ : Q none s) : wpAny M A (reRunToEnd m) Q E s := by
  unfold reRunToEnd
  refine wpAny_bind (wp_drive 40 (2 ^ 64) m (by decide) h ?_)
  refine wpAny_bind (wp_rules ?_ _)
  rw [ho]
  exact wpAny_pure hQ
theorem named_eq (a b : Value) : reNamed "re.Pattern.match" "match" ["string", "pos", "endpos"] 1 [a, b] [] = pure [some a, some b, none] := by rfl
theorem ssize0 (t : Tok) : reSsize (.int 0 t) = pure 0 := by rfl
theorem ssize1 (t : Tok) : reSsize (.int 1 t) = pure 1 := by rfl
theorem wp_ssize {i : Int} {t : Tok} {Q : Int → Shared → Prop} (hi : i = 0 ∨ i = 1) (h : Q i s) : wpAny M A (reSsize (.int i t)) Q E s := by
  rcases hi with rfl | rfl
  · exact wpAny_of_eq (ssize0 t) h
  · exact wpAny_of_eq (ssize1 t) h
def patObj (v : Value) (f g : Int) (tf tg : Tok) (ca : Addr) : Obj := { cls := .type "re.Pattern", data := .fields #[v, .int f tf, .int g tg, .none, .none, .ref ca, .int 0 0] }
theorem wp_target {pat ca : Addr} {v : Value} {f g : Int} {tf tg : Tok} {items : Array Value} {n : Nat} {x : Str} {tx ti : Tok} {i : Int} {co : Obj} {Q : ReTarget → Shared → Prop}
    (hp : s.heap.get? pat = some (patObj v f g tf tg ca)) (hc : s.heap.get? ca = some co) (hcd : co.data = .seq items n) (hi : i = 0 ∨ i = 1)
    (h : Q { pattern := .ref pat, string := .str x tx, code := (items.map reRawOf).map (·.toNat), text := x.cps, kind := 0, groups := g.toNat, pos := min i.toNat x.cps.size, lim := min (2 ^ 63 - 1 : Int).toNat x.cps.size } s) :
    wpAny M A (reTarget "re.Pattern.match" "match" ⟨[.ref pat, .str x tx, .int i ti], []⟩) Q E s := by
  unfold reTarget
  refine wpAny_bind (wpAny_of_eq (named_eq _ _) ?_)
  refine wpAny_bind (wp_ssize hi ?_)
  refine wpAny_bind (wpAny_pure ?_)
  refine wpAny_bind (wpAny_fieldsOf hp rfl ?_)
  refine wpAny_bind (wpAny_bind (wpAny_pure (wpAny_pure ?_)))
  refine wpAny_bind (wpAny_of_eq (a := ()) rfl ?_)
  show wpAny M A (do
    let d ← reRawItems (Value.ref ca)
    pure { pattern := Value.ref pat, string := Value.str x tx, code := Array.map (fun x => x.toNat) d, text := x.cps, kind := 0, groups := g.toNat, pos := min i.toNat x.cps.size, lim := min (2 ^ 63 - 1 : Int).toNat x.cps.size }) Q E s
  unfold reRawItems
  refine wpAny_bind (wpAny_bind (wpAny_seqItems hc hcd (wpAny_pure ?_)))
  exact wpAny_pure h
theorem plain_pat : PlainAttrs "re.Pattern" :=
  ⟨⟨"object.__getattribute__", by rw [typeLookup_type, builtinLookup_eq_fast]; kernel_rfl, by decide +kernel⟩, by rw [typeLookup_type, builtinLookup_eq_fast]; kernel_rfl⟩
theorem plain_mat : PlainAttrs "re.Match" :=
  ⟨⟨"object.__getattribute__", by rw [typeLookup_type, builtinLookup_eq_fast]; kernel_rfl, by decide +kernel⟩, by rw [typeLookup_type, builtinLookup_eq_fast]; kernel_rfl⟩
theorem slot_match : Slot "re.Pattern" "match" "re.Pattern.match" :=
  .of (owner := "re.Pattern") (n := "match") (by rw [typeLookup_type, builtinLookup_eq_fast]; kernel_rfl) (by decide +kernel) (by decide +kernel) (by decide +kernel)
    (by first | exact .inl (by decide +kernel) | exact .inr (by decide +kernel)) (by rw [isSubtype_type]; kernel_rfl)
theorem slot_end : Slot "re.Match" "end" "re.Match.end" :=
  .of (owner := "re.Match") (n := "end") (by rw [typeLookup_type, builtinLookup_eq_fast]; kernel_rfl) (by decide +kernel) (by decide +kernel) (by decide +kernel)
    (by first | exact .inl (by decide +kernel) | exact .inr (by decide +kernel)) (by rw [isSubtype_type]; kernel_rfl)
theorem type_match : typeOf (.builtin "re.Pattern.match") = pure (.type "method_descriptor") := by show builtinType _ = _; rw [builtinType_eq_fast]; kernel_rfl
theorem type_end : typeOf (.builtin "re.Match.end") = pure (.type "method_descriptor") := by show builtinType _ = _; rw [builtinType_eq_fast]; kernel_rfl
theorem entry_match : entryFor table "re.Pattern.match" = some Builtin.«re.Pattern.match» := entryFor_of_tree (by kernel_rfl)
theorem entry_end : entryFor table "re.Match.end" = some Builtin.«re.Match.end» := entryFor_of_tree (by kernel_rfl)
theorem args_match (a b c : Value) : argsOk "re.Pattern.match" ⟨[a, b, c], []⟩ := by
  unfold argsOk; rfl
theorem args_end (a : Value) : argsOk "re.Match.end" ⟨[a], []⟩ := by
  unfold argsOk; rfl
theorem typeIs_obj {a : Addr} {o : Obj} {T : String} (ho : s.heap.get? a = some o) (hc : o.cls = .type T) : s.TypeIs (.ref a) T := ⟨o, ho, hc⟩
abbrev reAt (items : Array Value) (g : Int) (x : Str) (i : Int) : Option Sre.M := drive 40 (Sre.forMatch ((items.map reRawOf).map (·.toNat)) x.cps g.toNat (min i.toNat x.cps.size) (min (2 ^ 63 - 1 : Int).toNat x.cps.size) false false)
theorem call_match_none {pat ca : Addr} {v : Value} {f g : Int} {tf tg : Tok} {items : Array Value} {n : Nat} {x : Str} {tx ti : Tok} {i : Int} {co : Obj} {Q : Value → Shared → Prop}
    (hp : s.heap.get? pat = some (patObj v f g tf tg ca)) (hc : s.heap.get? ca = some co) (hcd : co.data = .seq items n) (hi : i = 0 ∨ i = 1)
    (hf : failsR (reAt items g x i) = true) (h : Q .none s) :
    wpAny (model prog w) A (call (.builtin "re.Pattern.match") [.ref pat, .str x tx, .int i ti]) Q E s := by
  refine wpAny_call_entry slot_match (typeIs_obj hp rfl) entry_match ?_ (args_match _ _ _)
  unfold Builtin.«re.Pattern.match»
  refine wpAny_bind (wp_target hp hc hcd hi ?_)
  unfold reAnswer
  obtain ⟨m, h1, h2⟩ := failsR_out hf
  refine wpAny_bind (wp_run_failed h1 h2 ?_)
  exact wpAny_pure ⟨_, rfl, h⟩
def matObj (x : Str) (tx : Tok) (pat : Addr) (pos lim : Nat) (li : Int) (tu : Addr) : Obj := { cls := .type "re.Match", data := .fields #[.str x tx, .ref pat, rawInt pos, rawInt lim, rawInt li, .ref tu] }
def spanObj (a b : Nat) (sp : List Value) : Obj := { cls := .type "tuple", data := .seq (rawInt a :: rawInt b :: sp).toArray }
theorem call_match_some {pat ca : Addr} {v : Value} {f g : Int} {tf tg : Tok} {items : Array Value} {n : Nat} {x : Str} {tx ti : Tok} {i : Int} {co : Obj} {a b : Nat} {h₀ : Heap} {L : Addr} {m : Str → Option Value} {news : List (Addr × Obj)} {Q : Value → Shared → Prop}
    (F : Fr h₀ L s.heap m) (N : News h₀ L s.heap news)
    (hp : s.heap.get? pat = some (patObj v f g tf tg ca)) (hc : s.heap.get? ca = some co) (hcd : co.data = .seq items n) (hi : i = 0 ∨ i = 1) (hg : g.toNat ≤ 10)
    (hf : sees g.toNat (reAt items g x i) a b = true)
    (h : ∀ mo tu pos lim li sp h', Fr h₀ L h' m → News h₀ L h' ((mo, matObj x tx pat pos lim li tu) :: (tu, spanObj a b sp) :: news) → (∀ p ∈ news, p.1 < tu) → tu < mo → Q (.ref mo) { s with heap := h' }) :
    wpAny (model prog w) A (call (.builtin "re.Pattern.match") [.ref pat, .str x tx, .int i ti]) Q E s := by
  refine wpAny_call_entry slot_match (typeIs_obj hp rfl) entry_match ?_ (args_match _ _ _)
  unfold Builtin.«re.Pattern.match»
  refine wpAny_bind (wp_target hp hc hcd hi ?_)
  unfold reAnswer
  obtain ⟨m', h1, h2, rfl, rfl, h5⟩ := sees_out hf
  refine wpAny_bind (wp_run_matched h1 h2 ?_)
  refine wpAny_bind ?_
  have hl : ∀ l : List Nat, (List.flatMap (fun g => match if ((2 * g + 1 : Nat) : Int) ≤ m'.lastmark then (m'.marks.getD (2 * g) none, m'.marks.getD (2 * g + 1) none) else (none, none) with | (some b, some e) => [rawInt (b : Nat), rawInt (e : Nat)] | _ => [rawInt (-1), rawInt (-1)]) l).length = 2 * l.length := by
    intro l
    induction l with
    | nil => rfl
    | cons y r ih =>
      rw [List.flatMap_cons, List.length_append, ih, List.length_cons]
      split <;> simp <;> omega
  have hlen := hl (List.range g.toNat)
  rw [List.length_range] at hlen
  show wpAny (model prog w) A.in1 (if badSpan m' g.toNat = true then _ else _) _ E s
  rw [h5, if_neg Bool.false_ne_true]
  refine wpAny_bind (newTuple_N F N (fun h₁ F₁ N₁ => ?_) ?_)
  · refine wpAny_newObj_type ?_ ?_
    · refine wpAny_pure ⟨_, rfl, ?_⟩
      refine h _ _ _ _ _ _ _ (F₁.push _) (News.push F₁ N₁ _) (fun p hp => Heap.lt_size (N p hp).1) ?_
      exact Heap.lt_size (N₁ _ (.head _)).1
    · first | trivial | size_fits
  · have e2 : ∀ k : Nat, k = 2 * g.toNat → k + 1 + 1 ≤ sizeLine := by
      intro k hk
      rw [sizeLine_eq]; omega
    exact e2 _ hlen
theorem call_end {mo tu pat : Addr} {x : Str} {tx : Tok} {pos lim a b : Nat} {li : Int} {sp : List Value} {Q : Value → Shared → Prop}
    (hm : s.heap.get? mo = some (matObj x tx pat pos lim li tu)) (ht : s.heap.get? tu = some (spanObj a b sp))
    (h : ∀ t tk', Q (.int b t) { s with toks := tk' }) :
    wpAny (model prog w) A (call (.builtin "re.Match.end") [.ref mo]) Q E s := by
  refine wpAny_call_entry slot_end (typeIs_obj hm rfl) entry_end ?_ (args_end _)
  unfold Builtin.«re.Match.end» reOneGroup
  refine wpAny_bind (wpAny_bind (wpAny_of_eq (a := (Value.ref mo, [])) rfl ?_))
  unfold reFound
  refine wpAny_bind (wpAny_bind (wpAny_fieldsOf hm rfl ?_))
  unfold reRawItems
  refine wpAny_bind (wpAny_bind (wpAny_seqItems ht rfl (wpAny_pure ?_)))
  refine wpAny_pure ?_
  refine wpAny_bind (wpAny_pure (wpAny_pure ?_))
  have e : (Array.map reRawOf ((some (rawInt a :: rawInt b :: sp).toArray).getD #[])).getD (2 * 0 + 1) (-1) = (b : Int) := by
    simp [rawInt, reRawOf]
  show wpAny (model prog w) A.in1 (retInt ((Array.map reRawOf ((some (rawInt a :: rawInt b :: sp).toArray).getD #[])).getD (2 * 0 + 1) (-1))) _ E s
  rw [e]
  unfold retInt mkInt
  exact wpAny_bind (wpAny_bind (wpAny_fresh (wpAny_pure (wpAny_pure ⟨_, rfl, h _ _⟩))))
end
end Mine
namespace Mine
/-- the reader's own dict, its count of lines told -/
inductive IsRd (P : Params) : Obj → Int → Prop
  | mk {b kw an va pv sd : Addr} {k0 k1 k2 k3 k4 k5 k6 k7 k8 k9 k10 k11 k12 k13 k14 v2 v3 v4 v5 v7 : Tok} {ln sl : Int} : IsRd P (dictOf [
      ⟨PyData.keyHash P (Str.ofString "_bindings"), .str (Str.ofString "_bindings") k0, .ref b⟩,
      ⟨PyData.keyHash P (Str.ofString "_store"), .str (Str.ofString "_store") k1, .none⟩,
      ⟨PyData.keyHash P (Str.ofString "_thisDoc"), .str (Str.ofString "_thisDoc") k2, .str (Str.ofString "") v2⟩,
      ⟨PyData.keyHash P (Str.ofString "lines"), .str (Str.ofString "lines") k3, .int ln v3⟩,
      ⟨PyData.keyHash P (Str.ofString "startOfLine"), .str (Str.ofString "startOfLine") k4, .int sl v4⟩,
      ⟨PyData.keyHash P (Str.ofString "_genPrefix"), .str (Str.ofString "_genPrefix") k5, .str (Str.ofString "") v5⟩,
      ⟨PyData.keyHash P (Str.ofString "keywords"), .str (Str.ofString "keywords") k6, .ref kw⟩,
      ⟨PyData.keyHash P (Str.ofString "keywordsSet"), .str (Str.ofString "keywordsSet") k7, .int 0 v7⟩,
      ⟨PyData.keyHash P (Str.ofString "_anonymousNodes"), .str (Str.ofString "_anonymousNodes") k8, .ref an⟩,
      ⟨PyData.keyHash P (Str.ofString "_variables"), .str (Str.ofString "_variables") k9, .ref va⟩,
      ⟨PyData.keyHash P (Str.ofString "_parentVariables"), .str (Str.ofString "_parentVariables") k10, .ref pv⟩,
      ⟨PyData.keyHash P (Str.ofString "_reason"), .str (Str.ofString "_reason") k11, .none⟩,
      ⟨PyData.keyHash P (Str.ofString "turtle"), .str (Str.ofString "turtle") k12, .bool false⟩,
      ⟨PyData.keyHash P (Str.ofString "string_delimiters"), .str (Str.ofString "string_delimiters") k13, .ref sd⟩,
      ⟨PyData.keyHash P (Str.ofString "_baseURI"), .str (Str.ofString "_baseURI") k14, .none⟩] 15) ln
section
variable {M : Model} {A : Around} {E : Value → Shared → Prop} {s : Shared} {h₀ h : Heap} {L : Addr} {m : Str → Option Value} {K : Frag} {news : List (Addr × Obj)}
theorem obj_at {a : Addr} {o : Obj} (F : Fr h₀ L h m) (X : K.In h₀) (e : K.lookup a = some o) : h.get? a = some o := F.keep _ _ (X _ _ e)
theorem get_pat {pat ca : Addr} {v : Value} {f g : Int} {tf tg : Tok} {pl : Sem Bool} {Q : Value × List Value → Shared → Prop} (hp : s.heap.get? pat = some (patObj v f g tf tg ca)) (h : Q (.builtin "re.Pattern.match", [.ref pat]) s) :
    wpAny M A (getMethod (.ref pat) (Str.ofString "match") pl) Q E s :=
  getMethod_builtin (typeIs_obj hp rfl) plain_pat slot_match type_match (by rintro a ⟨⟩; exact ⟨_, hp, rfl⟩) h
theorem get_mat {mo tu pat : Addr} {x : Str} {tx : Tok} {pos lim : Nat} {li : Int} {pl : Sem Bool} {Q : Value × List Value → Shared → Prop} (hp : s.heap.get? mo = some (matObj x tx pat pos lim li tu)) (h : Q (.builtin "re.Match.end", [.ref mo]) s) :
    wpAny M A (getMethod (.ref mo) (Str.ofString "end") pl) Q E s :=
  getMethod_builtin (typeIs_obj hp rfl) plain_mat slot_end type_end (by rintro a ⟨⟩; exact ⟨_, hp, rfl⟩) h
theorem news_cut {a b : Addr} {oa ob : Obj} {rest : List (Addr × Obj)} (N : News h₀ L h news) (h1 : (a, oa) ∈ news) (h2 : (b, ob) ∈ news) (h3 : ∀ p ∈ rest, p ∈ news) : News h₀ L h ((a, oa) :: (b, ob) :: rest) := by
  intro p hp
  rcases List.mem_cons.mp hp with rfl | hp
  · exact N _ h1
  rcases List.mem_cons.mp hp with rfl | hp
  · exact N _ h2
  exact N _ (h3 p hp)
end
end Mine
namespace Mine
theorem fill3 : PySem.Challenge.rw_ew5020_01 = PySem.Challenge.rw_ew5020_01 ∧ hd.heap_39 = hd.heap_39 := by
  k_fill
  exact ⟨rfl, rfl⟩
local macro_rules | `(tactic| ktr_rel) => `(tactic| ((try dsimp only [TurnPost]); refine' At.of (_, _) ?aF ?aN ?an ?ak ?ar ?ad; (case aF => assumption); (case aN => assumption); (case an => exact fun _ h => h); (case ak => kst_all); (case ar => (intro z h2 h3; (try simp only [List.forall_mem_cons, List.not_mem_nil, false_implies, implies_true, and_true, ne_eq] at h2); first | rfl | (simp [kstB, h2]; done) | ((simp only [List.contains_cons, List.contains_nil, Bool.or_false, Bool.or_eq_false_iff, beq_eq_false_iff_ne, ne_eq] at h3); (simp [kstB, h2, h3]; done)))); (try dsimp only)))
theorem read_claim {prog : Program} {w : World} {loose : List Str} {mean : ExcName → Option Value} {mg mb : Str → Option Value} {news : List (Addr × Obj)}
    (dp un : Nat) (gd : Option (List Code)) (cn : Str) (cs : Scope) (a : Addr) (ccd : Value) (cl : List (Str × Addr)) (outer : List Env) (A₀ : Around) (base h₀ : Heap) (L : Addr) (m : Str → Option Value) (s : Shared) (Q E : Value → Shared → Prop)
    (t : Str) (tk : Tok)
    (B : Below A₀ base outer h₀) (F : Fr h₀ L s.heap m) (X : (hd.heap_39 w.params).In h₀) (N : News h₀ L s.heap news) (T : Top hd.view_39 loose mean mg mb h₀) (hk : cs.kind = .function)
    (hd1 : dp + 1 < recursionLimit) (hun : un + 8 < cLine)
    (ok : Ok t)
    (hret : ∀ l vs h' tk', OutVals (lawRead t) vs → Fr h₀ L h' m → News h₀ L h' ((l, W.listOf vs.toArray 0) :: news) → (∀ p ∈ news, p.1 < l) → Q (.ref l) { s with heap := h', toks := tk' }) :
    wpAny (model prog w) (ktrTop dp un gd cn cs L a ccd cl outer) (call (.ref 158) [.str t tk]) Q E s := by
  have hlen := ok.len
  have hmax := ok.most
  w_top off
  k_with_none
  k_with "exec Assign cons IfExp" => refine Held.on (n := 1) ?_
  refine wpAny_call ?_
  k_dflt cell_enter
  k_steps
  k_with_none
  refine Held.off ?_
  rename Fr _ _ _ _ => lF
  rename News _ _ _ _ => lN
  refine' cutG (σ := Int × Tok) (fun c => [(Str.ofString "at", .int c.1 c.2)]) [] (fun c => c.1 = headOf t) lF lN ?first ?rest
  case first =>
    k_steps
    · ktr_rel
      have q := f_out (t := t) lit_blanks (by assumption) (by omega) (by omega)
      exact (if_neg q).symm
    · ktr_rel
      have q := f_in (t := t) lit_blanks (by assumption) (by omega) (by omega)
      exact (if_pos q).symm
  case rest =>
    rintro ⟨at', ta⟩ u h tk' p1 F1 N1
    clear lF lN
    dsimp only at *
    have hat : 0 ≤ at' ∧ at' ≤ 1 := by
      rw [p1]; unfold headOf; split <;> omega
    k_with "exec While" => refine Held.on (n := 3) ?_
    k_with "exec If BoolOp" => refine Held.on (n := 2) ?_
    k_steps
    · rename Fr _ _ _ _ => lF
      rename News _ _ _ _ => lN
      refine Held.off ?_
      refine' loopG (σ := Int × Tok) (fun c => [(Str.ofString "end", .int c.1 c.2)]) [] (fun c => at' ≤ c.1 ∧ c.1 + 2 ≤ t.length ∧ ∀ j, at' ≤ j → j < c.1 → isStopC t j = false) (fun c => at' ≤ c.1 ∧ c.1 + 2 ≤ t.length ∧ firstI (isStopC t) t.length at' = c.1) (fun c => (t.length - c.1).toNat) (at', _) lF lN ?kk ?kp ?turn ?rest ?pass
      case kk => kst_all
      case kp => exact ⟨by omega, by omega, fun j a b => by omega⟩
      case pass => passes_own
      case turn =>
        rintro ⟨e, te⟩ u h tk' ⟨p1, p2, p3⟩ F1 N1
        clear lF lN
        dsimp only at *
        k_steps
        · ktr_rel
          have q1 := f_out (t := t) lit_stops (by assumption) (by omega) (by omega)
          have q2 := f_nt (t := t) s_colon (by assumption) (by omega) (by omega)
          have q3 : isStopC t e = false := by rw [isStopC_of]; simp [isStop, q1, q2]
          have q4 : e + 2 ≠ t.length := fun x => by
            have y : cd t e = 32 := by rw [show e = (t.length : Int) - 2 by omega]; exact ok.last2
            rw [isStopC_blank y] at q3; cases q3
          refine ⟨⟨by omega, by omega, fun j a b => ?_⟩, by omega⟩
          by_cases hj : j = e
          · rw [hj]; exact q3
          · exact p3 j a (by omega)
        · ktr_rel
          have q2 := f_nf (t := t) s_colon (by assumption) (by omega) (by omega)
          exact ⟨p1, p2, firstI_is _ _ _ p1 (by omega) p3 (by rw [isStopC_of]; simp [q2])⟩
        · ktr_rel
          have q1 := f_in (t := t) lit_stops (by assumption) (by omega) (by omega)
          exact ⟨p1, p2, firstI_is _ _ _ p1 (by omega) p3 (by rw [isStopC_of]; simp [isStop, q1])⟩
      case rest =>
        rintro ⟨e, te⟩ u h tk' ⟨p2, p3, p4⟩ F1 N1
        clear lF lN
        dsimp only at *
        k_steps
        k_with_none
        refine Held.off ?_
        rename Fr _ _ _ _ => lF
        rename News _ _ _ _ => lN
        refine' cutG (σ := Int × Tok) (fun c => [(Str.ofString "end", .int c.1 c.2)]) [] (fun c => c.1 = endOf t at' e) lF lN ?first ?rest
        case first =>
          k_steps
          · ktr_rel
            have q1 := f_eq (t := t) s_dot (by assumption) (by omega) (by omega)
            unfold endOf
            rw [if_pos ⟨by assumption, q1⟩]
          · ktr_rel
            have q1 := f_ne (t := t) s_dot (by assumption) (by omega) (by omega)
            unfold endOf
            rw [if_neg fun x => q1 x.2]
          · ktr_rel
            unfold endOf
            rw [if_neg fun x => (by assumption : ¬ at' < e) x.1]
        case rest =>
          rintro ⟨e', te'⟩ u h tk' p5 F1 N1
          clear lF lN
          dsimp only at *
          have p6 := end_ge p5 p2
          k_with "exec Assign cons IfExp" => refine Held.on (n := 1) ?_
          k_steps
          · have q1 := f_nt (t := t) s_colon (by assumption) (by omega) (by omega)
            refine hret _ _ _ _ ?_ (by assumption) (by assumption) (by assumption)
            rw [read_nocolon p1 p4 p5 q1]
            exact ⟨_, rfl⟩
          · have q1 := f_nf (t := t) s_colon (by assumption) (by omega) (by omega)
            have q2 := f_out (t := t) lit_num (by assumption) (by omega) (by omega)
            have p7 := read_colon p1 q2 p4 p5 q1
            k_with_none
            refine Held.off ?_
            rename Fr _ _ _ _ => lF
            rename News _ _ _ _ => lN
            refine' cutG (σ := Str × Tok) (fun c => [(Str.ofString "stops", .str c.1 c.2)]) [] (fun c => c.1.cps.toList = stopsOf (Txt.slice t (some at') (some e'))) lF lN ?first ?rest
            case first =>
              k_steps
              · ktr_rel
                rw [slice_under (by assumption)]
                exact lit_stops3
              · ktr_rel
                rw [slice_plain (by assumption)]
                exact lit_stops
            case rest =>
              rintro ⟨S, tS⟩ u h tk' hS F1 N1
              clear lF lN
              dsimp only at *
              k_with "exec While" => refine Held.on (n := 3) ?_
              k_steps
              k_with_none
              refine Held.off ?_
              rename Fr _ _ _ _ => lF
              rename News _ _ _ _ => lN
              refine' loopG (σ := Int × Tok) (fun c => [(Str.ofString "place", .int c.1 c.2)]) [Str.ofString "sign"] (fun c => e' + 1 ≤ c.1 ∧ c.1 + 2 ≤ t.length ∧ ∀ j, e' + 1 ≤ j → j < c.1 → halts t (Txt.slice t (some at') (some e')) j = false) (fun c => e' + 1 ≤ c.1 ∧ c.1 + 2 ≤ t.length ∧ cd t c.1 ≠ 92 ∧ badHex t c.1 = false ∧ firstI (halts t (Txt.slice t (some at') (some e'))) t.length (e' + 1) = c.1) (fun c => (t.length - c.1).toNat) (e' + 1, _) lF lN ?kk ?kp ?turn ?rest ?pass
              case kk => kst_all
              case kp =>
                have q4 : e' + 2 ≠ t.length := fun x => by
                  have y : cd t e' = 32 := by rw [show e' = (t.length : Int) - 2 by omega]; exact ok.last2
                  rw [q1] at y; cases y
                exact ⟨by omega, by omega, fun j a b => by omega⟩
              case pass => passes_own
              case turn =>
                rintro ⟨c, tc⟩ u h tk' ⟨r1, r2, r3⟩ F1 N1
                clear lF lN
                dsimp only at *
                have go : halts t (Txt.slice t (some at') (some e')) c = true → lawRead t = localOf t (Txt.slice t (some at') (some e')) e' c := fun x => by
                  rw [p7, firstI_is _ _ _ r1 (by omega) r3 x]
                have far : cd t c ≠ 32 → c + 2 < t.length := fun x => by
                  have q4 : c + 2 ≠ t.length := fun y => x (by rw [show c = (t.length : Int) - 2 by omega]; exact ok.last2)
                  omega
                k_steps
                · have g1 := f_eq (t := t) s_bsl (by assumption) (by omega) (by omega)
                  dsimp only [TurnPost]
                  k_steps
                  refine hret _ _ _ _ ?_ (by assumption) (by assumption) (by assumption)
                  rw [go (by rw [halts_is, g1]; simp [stops_bsl]), local_bsl g1]
                  exact ⟨_, _, _, rfl⟩
                · have g1 := f_eq (t := t) s_pct (by assumption) (by omega) (by omega)
                  have g2 := f_out (t := t) lit_hex (by assumption) (by omega) (by omega)
                  dsimp only [TurnPost]
                  k_steps
                  refine hret _ _ _ _ ?_ (by assumption) (by assumption) (by assumption)
                  rw [go (by rw [halts_is, badHex_1 g1 g2]; rfl), local_pct (badHex_1 g1 g2)]
                  exact ⟨_, _, _, rfl⟩
                · have g1 := f_eq (t := t) s_pct (by assumption) (by omega) (by omega)
                  have g2 := f_in (t := t) lit_hex (by assumption) (by omega) (by omega)
                  have g3 := far (by rw [g1]; decide)
                  k_steps
                  · have g4 := f_out (t := t) (i := c + 2) lit_hex (by assumption) (by omega) (by omega)
                    dsimp only [TurnPost]
                    k_steps
                    refine hret _ _ _ _ ?_ (by assumption) (by assumption) (by assumption)
                    rw [go (by rw [halts_is, badHex_2 g1 g4]; rfl), local_pct (badHex_2 g1 g4)]
                    exact ⟨_, _, _, rfl⟩
                  · ktr_rel
                    have g4 := f_in (t := t) (i := c + 2) lit_hex (by assumption) (by omega) (by omega)
                    have g5 := f_out (t := t) hS (by assumption) (by omega) (by omega)
                    have g6 : halts t (Txt.slice t (some at') (some e')) c = false := by rw [halts_is, badHex_ok g2 g4]; simp [g5]
                    refine ⟨⟨by omega, by omega, fun j a b => ?_⟩, by omega⟩
                    by_cases hj : j = c
                    · rw [hj]; exact g6
                    · exact r3 j a (by omega)
                  · have g5 := f_in (t := t) hS (by assumption) (by omega) (by omega)
                    rw [g1] at g5
                    exact absurd g5 (stops_pct _)
                · ktr_rel
                  have g1 := f_ne (t := t) s_pct (by assumption) (by omega) (by omega)
                  have g2 := f_out (t := t) hS (by assumption) (by omega) (by omega)
                  have g3 := far fun x => g2 (by rw [x]; exact stops_blank _)
                  have g4 : halts t (Txt.slice t (some at') (some e')) c = false := by rw [halts_is, badHex_ne g1]; simp [g2]
                  refine ⟨⟨by omega, by omega, fun j a b => ?_⟩, by omega⟩
                  by_cases hj : j = c
                  · rw [hj]; exact g4
                  · exact r3 j a (by omega)
                · ktr_rel
                  have g0 := f_ne (t := t) s_bsl (by assumption) (by omega) (by omega)
                  have g1 := f_ne (t := t) s_pct (by assumption) (by omega) (by omega)
                  have g2 := f_in (t := t) hS (by assumption) (by omega) (by omega)
                  exact ⟨r1, r2, g0, badHex_ne g1, firstI_is _ _ _ r1 (by omega) r3 (by rw [halts_is]; simp [g2])⟩
              case rest =>
                rintro ⟨c, tc⟩ u h tk' ⟨r1, r2, r3, r4, r5⟩ F1 N1
                clear lF lN
                dsimp only at *
                rw [r5] at p7
                k_steps
                · have g1 := f_eq (t := t) s_dot (by assumption) (by omega) (by omega)
                  refine hret _ _ _ _ ?_ (by assumption) (by assumption) (by assumption)
                  rw [p7, local_told r3 r4 (if_pos g1).symm]
                  exact ⟨_, _, _, _, rfl⟩
                · have g1 := f_ne (t := t) s_dot (by assumption) (by omega) (by omega)
                  refine hret _ _ _ _ ?_ (by assumption) (by assumption) (by assumption)
                  rw [p7, local_told r3 r4 (if_neg g1).symm]
                  exact ⟨_, _, _, _, rfl⟩
    · have q2 := f_in (t := t) lit_num (by assumption) (by omega) (by omega)
      refine hret _ _ _ _ ?_ (by assumption) (by assumption) (by assumption)
      rw [read_num p1 q2]
      exact ⟨_, rfl⟩
end Mine
namespace Mine
theorem fill5 : PySem.Challenge.rw_ew5020_01 = PySem.Challenge.rw_ew5020_01 ∧ hd.heap_39 = hd.heap_39 := by
  k_fill
  exact ⟨rfl, rfl⟩
section
local macro_rules | `(tactic| walk_at "WhlRest") => `(tactic| refine Mark.on (n := 5) ?_)
theorem skip_gen {prog : Program} {w : World} {loose : List Str} {mean : ExcName → Option Value} {mg mb : Str → Option Value} {news : List (Addr × Obj)}
    (dp un : Nat) (gd : Option (List Code)) (cn : Str) (cs : Scope) (a : Addr) (ccd : Value) (cl : List (Str × Addr)) (outer : List Env) (A₀ : Around) (base h₀ : Heap) (L : Addr) (m : Str → Option Value) (s : Shared) (Q E : Value → Shared → Prop)
    (t : Str) (tk : Tok) (r : Addr) (ti : Tok) (j : Int)
    (B : Below A₀ base outer h₀) (F : Fr h₀ L s.heap m) (X : (hd.heap_39 w.params).In h₀) (N : News h₀ L s.heap news) (T : Top hd.view_39 loose mean mg mb h₀) (hk : cs.kind = .function)
    (hd1 : dp + 1 < recursionLimit) (hun : un + 8 < cLine)
    (ok : Ok t) (hj : Plain t 0 ∧ j = 0 ∨ (cd t 0 = 32 ∨ cd t 0 = 9) ∧ Plain t 1 ∧ j = 1)
    (hret : ∀ k h' tk', Fr h₀ L h' m → News h₀ L h' news → Q (.int j k) { s with heap := h', toks := tk' }) :
    wpAny (model prog w) (ktrTop dp un gd cn cs L a ccd cl outer) (call (.ref 75) [.ref r, .str t tk, .int 0 ti]) Q E s := by
  have hlen := ok.len
  have hmax := ok.most
  w_top off
  k_with_none
  k_with "exec While" => refine Held.on (n := 3) ?_
  refine wpAny_call ?_
  k_dflt cell_enter
  k_steps
  refine Held.off ?_
  k_dflt (refine whl_start 100 ?_)
  k_dflt (refine' whl_turn ?hE ?_; (case hE => first | passes_own | with_unfolding_all passes_own))
  k_steps
  · have q1 := blank2 (t := t) (by assumption) (by omega) (by omega)
    rcases hj with ⟨⟨p1, p2, p3, p4, p5⟩, rfl⟩ | ⟨hb, pl, rfl⟩
    · omega
    refine Mark.off ?_
    k_dflt (refine' whl_turn ?hE ?_; (case hE => first | passes_own | with_unfolding_all passes_own))
    k_steps
    · have q2 := blank2 (t := t) (i := 1) (by assumption) (by omega) (by omega)
      have := pl.1; have := pl.2.1
      omega
    · have q2 := line3 (t := t) (i := 1) (by assumption) (by omega) (by omega)
      obtain ⟨p1, p2, p3, p4, p5⟩ := pl
      omega
    · refine hret _ _ _ (by assumption) ?_
      rename News _ _ _ _ => lN
      exact fun p hp => lN p (.tail _ (.tail _ (.tail _ hp)))
  · have q2 := line3 (t := t) (i := 0) (by assumption) (by omega) (by omega)
    have q1 := blank2n (t := t) (i := 0) (by assumption) (by omega) (by omega)
    unfold Plain at hj
    omega
  · have q2 := line3n (t := t) (i := 0) (by assumption) (by omega) (by omega)
    have q1 := blank2n (t := t) (i := 0) (by assumption) (by omega) (by omega)
    rcases hj with ⟨_, rfl⟩ | ⟨hb, _, rfl⟩
    · refine hret _ _ _ (by assumption) ?_
      rename News _ _ _ _ => lN
      exact fun p hp => lN p (.tail _ (.tail _ hp))
    · omega
end
end Mine
namespace Mine
theorem fill6 : PySem.Challenge.rw_ew5020_01 = PySem.Challenge.rw_ew5020_01 ∧ hd.heap_39 = hd.heap_39 := by
  k_fill
  exact ⟨rfl, rfl⟩
section
local macro_rules | `(tactic| k_all) => `(tactic| assumption)
local macro_rules | `(tactic| walk_at "getMethod ref") => `(tactic| (first
  | (refine' get_pat (obj_at ?k1 ?k2 ?k3) ?_; (case k1 => k_asm); (case k2 => k_asm); (case k3 => k_is))
  | (refine' get_mat (News.get ?k1 ?k2) ?_; (case k1 => k_asm); (case k2 => k_mem))))
local macro_rules | `(tactic| walk_at "call builtin:re.Pattern.match") => `(tactic| (first
  | (refine' call_match_none (obj_at ?k1 ?k2 ?k3) (obj_at ?k4 ?k5 ?k6) ?k7 ?k8 ?k9 ?_; (case k1 => k_asm); (case k2 => k_asm); (case k3 => k_is); (case k4 => k_asm); (case k5 => k_asm); (case k6 => k_is); (case k7 => exact rfl); (case k8 => first | exact .inl rfl | exact .inr rfl); (case k9 => decide +kernel))
  | (refine' call_match_some (a := 0) (b := 1) ?kF ?kN (obj_at ?k1 ?k2 ?k3) (obj_at ?k4 ?k5 ?k6) ?k7 ?k8 ?kg ?k9 ?_; (case kF => k_asm); (case kN => k_asm); (case k1 => k_asm); (case k2 => k_asm); (case k3 => k_is); (case k4 => k_asm); (case k5 => k_asm); (case k6 => k_is); (case k7 => exact rfl); (case k8 => first | exact .inl rfl | exact .inr rfl); (case kg => decide); (case k9 => decide +kernel); intro mo tu pos lim li sp h' F' N' l1 l2; (try k_lt l1); (try k_lt2 l2); (try k_sweep))
  | (refine' call_match_some (a := 1) (b := 1) ?kF ?kN (obj_at ?k1 ?k2 ?k3) (obj_at ?k4 ?k5 ?k6) ?k7 ?k8 ?kg ?k9 ?_; (case kF => k_asm); (case kN => k_asm); (case k1 => k_asm); (case k2 => k_asm); (case k3 => k_is); (case k4 => k_asm); (case k5 => k_asm); (case k6 => k_is); (case k7 => exact rfl); (case k8 => first | exact .inl rfl | exact .inr rfl); (case kg => decide); (case k9 => decide +kernel); intro mo tu pos lim li sp h' F' N' l1 l2; (try k_lt l1); (try k_lt2 l2); (try k_sweep))
  | (refine' call_match_some (a := 0) (b := 0) ?kF ?kN (obj_at ?k1 ?k2 ?k3) (obj_at ?k4 ?k5 ?k6) ?k7 ?k8 ?kg ?k9 ?_; (case kF => k_asm); (case kN => k_asm); (case k1 => k_asm); (case k2 => k_asm); (case k3 => k_is); (case k4 => k_asm); (case k5 => k_asm); (case k6 => k_is); (case k7 => exact rfl); (case k8 => first | exact .inl rfl | exact .inr rfl); (case kg => decide); (case k9 => decide +kernel); intro mo tu pos lim li sp h' F' N' l1 l2; (try k_lt l1); (try k_lt2 l2); (try k_sweep))
  | (refine' call_match_some (a := 0) (b := 8) ?kF ?kN (obj_at ?k1 ?k2 ?k3) (obj_at ?k4 ?k5 ?k6) ?k7 ?k8 ?kg ?k9 ?_; (case kF => k_asm); (case kN => k_asm); (case k1 => k_asm); (case k2 => k_asm); (case k3 => k_is); (case k4 => k_asm); (case k5 => k_asm); (case k6 => k_is); (case k7 => exact rfl); (case k8 => first | exact .inl rfl | exact .inr rfl); (case kg => decide); (case k9 => decide +kernel); intro mo tu pos lim li sp h' F' N' l1 l2; (try k_lt l1); (try k_lt2 l2); (try k_sweep))))
local macro_rules | `(tactic| walk_at "call builtin:re.Match.end") => `(tactic| (refine' call_end (News.get ?k1 ?k2) (News.get ?k3 ?k4) ?_; (case k1 => k_asm); (case k2 => k_mem); (case k3 => k_asm); (case k4 => k_mem); intro t' tk'; (try dsimp only)))
theorem skip_nl {prog : Program} {w : World} {loose : List Str} {mean : ExcName → Option Value} {mg mb : Str → Option Value} {rest : List (Addr × Obj)}
    (dp un : Nat) (gd : Option (List Code)) (cn : Str) (cs : Scope) (a : Addr) (ccd : Value) (cl : List (Str × Addr)) (outer : List Env) (A₀ : Around) (base h₀ : Heap) (L : Addr) (m : Str → Option Value) (s : Shared) (Q E : Value → Shared → Prop)
    (tk : Tok) (r rd : Addr) (o : Obj) (ln : Int) (ti : Tok)
    (B : Below A₀ base outer h₀) (F : Fr h₀ L s.heap m) (X : (hd.heap_39 w.params).In h₀) (N : News h₀ L s.heap ((r, instObj 120 rd) :: (rd, o) :: rest)) (T : Top hd.view_39 loose mean mg mb h₀) (hk : cs.kind = .function)
    (hd1 : dp + 1 < recursionLimit) (hun : un + 8 < cLine)
    (hR : IsRd w.params o ln) (hne : @Ne Nat r rd) (hrest : ∀ p ∈ rest, p.1 ≠ rd)
    (hret : ∀ k o' h' tk', IsRd w.params o' (ln + 1) → Fr h₀ L h' m → News h₀ L h' ((r, instObj 120 rd) :: (rd, o') :: rest) → Q (.int 1 k) { s with heap := h', toks := tk' }) :
    wpAny (model prog w) (ktrTop dp un gd cn cs L a ccd cl outer) (call (.ref 75) [.ref r, .str (Str.ofString "\nab:cd  ") tk, .int 0 ti]) Q E s := by
  obtain ⟨⟩ := hR
  have hl : (Str.ofString "\nab:cd  ").length = 8 := by decide +kernel
  w_top off
  k_with_none
  refine wpAny_call ?_
  k_dflt cell_enter
  k_with "exec While Constant" => refine Held.on (n := 3) ?_
  k_steps
  refine Held.off ?_
  k_dflt (refine whl_start 100 ?_)
  k_dflt (refine' whl_turn ?hE ?_; (case hE => first | passes_own | with_unfolding_all passes_own))
  k_steps
  refine Held.off ?_
  k_dflt (refine whl_start 100 ?_)
  k_dflt (refine' whl_turn ?hE ?_; (case hE => first | passes_own | with_unfolding_all passes_own))
  k_steps
  refine' hret _ _ _ _ ?kR ?kF (news_cut ?n0 ?n1 ?n2 ?n3)
  case n0 => assumption
  case n1 => k_mem
  case n2 => k_mem
  case n3 => exact fun p hp => by repeat (first | exact hp | refine List.Mem.tail _ ?_)
  case kR => exact IsRd.mk
  case kF => assumption
theorem skip_cr {prog : Program} {w : World} {loose : List Str} {mean : ExcName → Option Value} {mg mb : Str → Option Value} {news : List (Addr × Obj)}
    (dp un : Nat) (gd : Option (List Code)) (cn : Str) (cs : Scope) (a : Addr) (ccd : Value) (cl : List (Str × Addr)) (outer : List Env) (A₀ : Around) (base h₀ : Heap) (L : Addr) (m : Str → Option Value) (s : Shared) (Q E : Value → Shared → Prop)
    (tk : Tok) (r : Addr) (ti : Tok)
    (B : Below A₀ base outer h₀) (F : Fr h₀ L s.heap m) (X : (hd.heap_39 w.params).In h₀) (N : News h₀ L s.heap news) (T : Top hd.view_39 loose mean mg mb h₀) (hk : cs.kind = .function)
    (hd1 : dp + 1 < recursionLimit) (hun : un + 8 < cLine)
    
    (hret : ∀ k h' tk', Fr h₀ L h' m → News h₀ L h' news → Q (.int 0 k) { s with heap := h', toks := tk' }) :
    wpAny (model prog w) (ktrTop dp un gd cn cs L a ccd cl outer) (call (.ref 75) [.ref r, .str (Str.ofString "\rab:cd  ") tk, .int 0 ti]) Q E s := by
  have hl : (Str.ofString "\rab:cd  ").length = 8 := by decide +kernel
  k_with_none
  refine wpAny_call ?_
  k_dflt cell_enter
  k_with "exec While Constant" => refine Held.on (n := 3) ?_
  k_steps
  refine Held.off ?_
  k_dflt (refine whl_start 100 ?_)
  k_dflt (refine' whl_turn ?hE ?_; (case hE => first | passes_own | with_unfolding_all passes_own))
  k_steps
  refine Held.off ?_
  k_dflt (refine whl_start 100 ?_)
  k_dflt (refine' whl_turn ?hE ?_; (case hE => first | passes_own | with_unfolding_all passes_own))
  k_steps
  refine hret _ _ _ (by assumption) ?_
  rename News _ _ _ _ => lN
  exact fun p hp => lN p (by repeat (first | exact hp | refine List.Mem.tail _ ?_))
theorem skip_hs {prog : Program} {w : World} {loose : List Str} {mean : ExcName → Option Value} {mg mb : Str → Option Value} {news : List (Addr × Obj)}
    (dp un : Nat) (gd : Option (List Code)) (cn : Str) (cs : Scope) (a : Addr) (ccd : Value) (cl : List (Str × Addr)) (outer : List Env) (A₀ : Around) (base h₀ : Heap) (L : Addr) (m : Str → Option Value) (s : Shared) (Q E : Value → Shared → Prop)
    (tk : Tok) (r : Addr) (ti : Tok)
    (B : Below A₀ base outer h₀) (F : Fr h₀ L s.heap m) (X : (hd.heap_39 w.params).In h₀) (N : News h₀ L s.heap news) (T : Top hd.view_39 loose mean mg mb h₀) (hk : cs.kind = .function)
    (hd1 : dp + 1 < recursionLimit) (hun : un + 8 < cLine)
    
    (hret : ∀ k h' tk', Fr h₀ L h' m → News h₀ L h' news → Q (.int (-1) k) { s with heap := h', toks := tk' }) :
    wpAny (model prog w) (ktrTop dp un gd cn cs L a ccd cl outer) (call (.ref 75) [.ref r, .str (Str.ofString "#ab:cd  ") tk, .int 0 ti]) Q E s := by
  have hl : (Str.ofString "#ab:cd  ").length = 8 := by decide +kernel
  k_with_none
  refine wpAny_call ?_
  k_dflt cell_enter
  k_with "exec While Constant" => refine Held.on (n := 3) ?_
  k_steps
  refine Held.off ?_
  k_dflt (refine whl_start 100 ?_)
  k_dflt (refine' whl_turn ?hE ?_; (case hE => first | passes_own | with_unfolding_all passes_own))
  k_steps
  refine Held.off ?_
  k_dflt (refine whl_start 100 ?_)
  k_dflt (refine' whl_turn ?hE ?_; (case hE => first | passes_own | with_unfolding_all passes_own))
  k_steps
  refine hret _ _ _ (by assumption) ?_
  rename News _ _ _ _ => lN
  exact fun p hp => lN p (by repeat (first | exact hp | refine List.Mem.tail _ ?_))
end
end Mine
namespace Mine
open Builtin Builtin._codecs
def Clean (t : Str) : Prop := ∀ c ∈ t.cps, Str.isSurrogate c = false
theorem utf8_len (c : Nat) : (Str.utf8Of c).length ≤ 4 := by
  unfold Str.utf8Of
  repeat' split
  all_goals simp
theorem fold_len (l : List Nat) : ∀ b : Array UInt8, (l.foldl (fun acc y => acc ++ (utf8Codec.bytesOf y).toArray) b).size ≤ b.size + 4 * l.length := by
  induction l with
  | nil => intro b; simp
  | cons y r ih =>
    intro b
    rw [List.foldl_cons, List.length_cons]
    have h1 := ih (b ++ (utf8Codec.bytesOf y).toArray)
    have h2 : (utf8Codec.bytesOf y).length ≤ 4 := utf8_len y
    rw [Array.size_append] at h1
    have h3 : (utf8Codec.bytesOf y).toArray.size = (utf8Codec.bytesOf y).length := List.size_toArray
    have h4 : (List.foldl (fun acc y => acc ++ (utf8Codec.bytesOf y).toArray) (b ++ (utf8Codec.bytesOf y).toArray) r).toList.length = (List.foldl (fun acc y => acc ++ (utf8Codec.bytesOf y).toArray) (b ++ (utf8Codec.bytesOf y).toArray) r).size := rfl
    omega
theorem enc_narrow {t : Str} {self : Value} (h0 : 2 ≤ t.length) (h1 : t.length ≤ 100) (hc : Clean t) : ∃ b : Array UInt8, b.size ≤ 400 ∧ encodeNarrow "str.encode" utf8Codec none self t = pure b := by
  have hl : t.length = t.cps.size := rfl
  have hbad : ∀ c ∈ t.cps, utf8Codec.bad c = false := hc
  have hfind : Array.findIdx? utf8Codec.bad t.cps = none := by
    rw [Array.findIdx?_eq_none_iff]
    intro c hm
    simp [hbad c hm]
  obtain ⟨x0, h00, hx0⟩ : ∃ x0, t.cps[0]? = some x0 ∧ utf8Codec.bad x0 = false := by
    have hp : 0 < t.cps.size := by omega
    exact ⟨t.cps[0], Array.getElem?_eq_getElem hp, hbad _ (Array.getElem_mem hp)⟩
  have hend : t.cps[t.cps.size]? = none := by simp
  have hsz : (Array.foldl (fun acc y => acc ++ (utf8Codec.bytesOf y).toArray) #[] t.cps).size ≤ 400 := by
    rw [← Array.foldl_toList]
    have := fold_len t.cps.toList #[]
    rw [Array.length_toList] at this
    simp at this
    simp
    omega
  refine ⟨Array.foldl (fun acc y => acc ++ (utf8Codec.bytesOf y).toArray) #[] t.cps, hsz, ?_⟩
  have hsz2 : ¬ (Array.foldl (fun acc y => acc ++ (utf8Codec.bytesOf y).toArray) #[] t.cps).size > sizeLine := by
    rw [sizeLine_eq]; omega
  unfold encodeNarrow
  simp only [Std.Legacy.Range.forIn_eq_forIn_range', Std.Legacy.Range.size]
  obtain ⟨n, hn⟩ : ∃ n, t.length = n + 2 := ⟨t.length - 2, by omega⟩
  simp only [hn]
  have e : (n + 2 - 0 + 1 - 1) / 1 = n + 2 := by omega
  rw [e, List.range'_succ, List.forIn_cons]
  simp only [h00, hx0, hfind, Array.extract_size, Option.getD_none, Bool.not_false, if_true, Nat.zero_add, pure_bind, bind_assoc]
  rw [if_neg (by rw [sizeLine_eq]; simp)]
  simp only [pure_bind, Array.extract_size]
  rw [List.range'_succ, List.forIn_cons]
  simp only [pure_bind, bind_assoc]
  rw [if_neg hsz2]
  simp only [hend, pure_bind]
theorem bind_opt (a : Value) : Builtin.Str.bindOptional "str.encode" "encode" 0 ["encoding", "errors"] [a] [] = pure [some a, none] := by
  kernel_rfl
theorem str_self (x : PySem.Str) (t : Tok) (a : Value) : Builtin.Str.strSelf ⟨[.str x t, a], []⟩ = pure (.str x t, x, [a]) := by
  kernel_rfl
theorem codec_some (u : Tok) : Builtin.Str.codecArg "str.encode" "encode" "'encoding'" (some (.str (Str.ofString "utf-8") u)) = pure (some (Str.ofString "utf-8")) := by
  kernel_rfl
theorem codec_none : Builtin.Str.codecArg "str.encode" "encode" "'errors'" none = pure none := by
  kernel_rfl
theorem norm_utf8 (self : Value) (x : Str) : encodeRoad "str.encode" self x (Str.ofString "utf-8") none = (do mkBytes (← encodeNarrow "str.encode" utf8Codec none self x)) := encodeRoad_utf8 _ _ _ _
section
variable {prog : Program} {w : World} {A : Around} {E : Value → Shared → Prop} {s : Shared}
theorem enc_args2 (a b : Value) : argsOk "str.encode" ⟨[a, b], []⟩ := F.args_str_encode_2 a b
theorem call_encode {t : Str} {tk u : Tok} {Q : Value → Shared → Prop} (h0 : 2 ≤ t.length) (h1 : t.length ≤ 100) (hc : Clean t)
    (h : ∀ b k tk', Q (.bytes b k) { s with toks := tk' }) :
    wpAny (model prog w) A (call (.builtin "str.encode") [.str t tk, .str (Str.ofString "utf-8") u]) Q E s := by
  refine wpAny_call_entry F.slot_str_encode (typeIs_str _ _ _) F.entry_str_encode ?_ (enc_args2 _ _)
  unfold «str.encode»
  rw [str_self]
  refine wpAny_bind (wpAny_pure ?_)
  refine wpAny_bind (wpAny_of_eq (bind_opt _) ?_)
  refine wpAny_bind (wpAny_of_eq (codec_some _) ?_)
  refine wpAny_bind (wpAny_of_eq codec_none ?_)
  obtain ⟨b, hb, he⟩ := enc_narrow (self := .str t tk) h0 h1 hc
  show wpAny _ _ (encodeRoad "str.encode" (.str t tk) t (Str.ofString "utf-8") none >>= fun r => ret r) _ _ s
  rw [norm_utf8, he]
  refine wpAny_bind (wpAny_bind (wpAny_pure ?_))
  unfold mkBytes
  rw [if_neg (by rw [sizeLine_eq]; omega)]
  exact wpAny_bind (wpAny_fresh (wpAny_pure (wpAny_pure ⟨_, rfl, h _ _ _⟩)))
end
end Mine
namespace Mine
open Builtin
def badM : List Value := [.type "SyntaxError", .type "Exception", .type "BaseException", .type "object"]
theorem mro_syn : mroOf (.type "SyntaxError") = pure badM := by rw [mroOf_type]; kernel_rfl
theorem init_syn : typeLookup (.type "SyntaxError") "__init__" = pure (some (.builtin "SyntaxError.__init__")) := by rw [typeLookup_type, builtinLookup_eq_fast]; kernel_rfl
theorem store_syn : StoreFacts "SyntaxError" badM "object.__setattr__" "object" where
  mro := mro_syn
  slot := .of (owner := "object") (n := "__setattr__") (by rw [typeLookup_type, builtinLookup_eq_fast]; kernel_rfl) (by decide +kernel) (by decide +kernel) (by decide +kernel)
    (by first | exact .inl (by decide +kernel) | exact .inr (by decide +kernel)) (by rw [isSubtype_type]; kernel_rfl)
  entry := F.entry_object_sa
  kind := by decide +kernel
  split := by decide +kernel
  hasOwner := by decide +kernel
  args := fun a b c => by unfold argsOk; kernel_rfl
  passes := fun self => by kernel_rfl
section
variable {prog : Program} {w : World} {A : Around} {R : Result → Shared → Prop} {E : Value → Shared → Prop} {h : Heap} {g : Array GenState} {d : Drawn} {t : Nat} {os : OsState}
variable {nm q : PySem.Str} {C N : Addr} {bs : List Value} {hdct : Bool} {sn : List PySem.Str} {sub : List Value} {ab : Bool} {col : Option Bool} {dd : Option Addr} {k0 k1 k2 k3 k5 : Option Value}
theorem new_bad {rest : List Value} (hC : h.get? C = some (excClassObj nm q C N bs badM hdct sn sub ab col dd k0 k1 k2 k3 k5 "Exception.__new__"))
    (hq : R (.ok (.ret (.ref (h.objs.size + 1)))) ⟨(h.push { cls := .type "tuple", data := .seq rest.toArray }).push
      { cls := .ref C, data := .fields #[.ref h.objs.size, .none, .none, .none, .bool false, .none] }, g, d, t, os⟩) (hrest : rest.length ≤ sizeLine) :
    codeAny (model prog w) A (.builtin "Exception.__new__" ⟨.ref C :: rest, []⟩) R ⟨h, g, d, t, os⟩ := by
  have Fn := F.excBase_Exception
  have hends := Fn.ends
  have hcB : (Value.ref C :: badM).contains (.type "Exception") = true := by rw [List.contains_cons]; rfl
  have hcA : (Value.ref C :: badM).contains (.type "AttributeError") = false := by rw [List.contains_cons]; rfl
  have hcN : (Value.ref C :: badM).contains (.type "NameError") = false := by rw [List.contains_cons]; rfl
  refine codeAny_builtinAt Fn.entry ?_
  unfold Builtin.«BaseException.__new__»
  refine PySem.wpAt_bind ?_
  show PySem.wpAt _ _ _ (stack >>= _) _ _ _
  refine PySem.wpAt_bind (PySem.wpAt_stack fun p below => PySem.wpAt_of_wpAny ?_)
  wp_walk
  refine PySem.wpAt_of_wpAny ?_
  rw [Fn.owner]
  repeat (first | with_reducible refine wpAny_madeHere_exc Fn.canon hC ?_ | with_reducible refine wpAny_loadPart_at hC ?_ | (with_reducible refine wpAny_isSubtype_exc hC ?_; first | rw [hcB] | rw [hcA] | rw [hcN]) | wp_step)
  show R _ _
  rw [Heap.size_push]
  exact hq
end
section
variable {prog : Program} {w : World} {A : Around} {E : Value → Shared → Prop} {h : Heap} {g : Array GenState} {d : Drawn} {t : Nat} {os : OsState}
variable {nm q : PySem.Str} {C N : Addr} {bs : List Value} {hdct : Bool} {sn : List PySem.Str} {sub : List Value} {ab : Bool} {col : Option Bool} {dd : Option Addr} {k0 k1 k2 k3 k5 : Option Value}
abbrev badObj (nm q : PySem.Str) (C N : Addr) (bs : List Value) (hdct : Bool) (sn : List PySem.Str) (sub : List Value) (ab : Bool) (col : Option Bool) (dd : Option Addr) (k0 k1 k2 k3 k5 : Option Value) : Obj := excClassObj nm q C N bs badM hdct sn sub ab col dd k0 k1 k2 k3 k5 "Exception.__new__"
theorem type_call_bad {mN : PySem.Str → Option Value} {rest : List Value} {fI : Addr} {oI : Obj} {Q : Fin → Shared → Prop}
    (hC : h.get? C = some (badObj nm q C N bs hdct sn sub ab col dd k0 k1 k2 k3 k5)) (hn : h.Ns N mN) (hi : mN "__init__" = some (.ref fI))
    (hfI : h.get? fI = some oI) (hfc : oI.cls = .type "function")
    (hq : ∀ h' e, Heap.MadeExcOf h h' e (.ref C) rest →
      wpAny (model prog w) A (call (.ref fI) (.ref e :: rest)) (fun r s' => r = .none ∧ Q (.done (.ret (.ref e))) s') E ⟨h', g, d, t, os⟩) (hrest : rest.length ≤ sizeLine) :
    wpAny (model prog w) A (Builtin.«type.__call__» ⟨.ref C :: rest, []⟩) Q E ⟨h, g, d, t, os⟩ := by
  have Fn := F.excBase_Exception
  repeat (first | with_reducible refine wpAny_loadPart_at hC ?_ | with_reducible refine wpAny_madeBy_exc hC ?_ | wp_step)
  refine codeAny_call_builtin_code (Code.quiet_builtin _ Fn.quiet) (wpAny_check_new_subU Fn (bmB := badM) rfl .base hC ?_)
  refine new_bad hC ?_ hrest
  show wpAny _ _ _ _ _ _
  have hC₁ := Heap.get?_push_of_some { cls := .ref C, data := .fields #[.ref h.objs.size, .none, .none, .none, .bool false, .none] }
    (Heap.get?_push_of_some { cls := .type "tuple", data := .seq rest.toArray } hC)
  have hfI₁ := Heap.get?_push_of_some { cls := .ref C, data := .fields #[.ref h.objs.size, .none, .none, .none, .bool false, .none] }
    (Heap.get?_push_of_some { cls := .type "tuple", data := .seq rest.toArray } hfI)
  have hn₁ : ((h.push { cls := .type "tuple", data := .seq rest.toArray }).push { cls := .ref C, data := .fields #[.ref h.objs.size, .none, .none, .none, .bool false, .none] }).Ns N mN :=
    let ⟨o, es, ep, e, r⟩ := hn; ⟨o, es, ep, Heap.get?_push_of_some _ (Heap.get?_push_of_some _ e), r⟩
  have hget : ((h.push { cls := .type "tuple", data := .seq rest.toArray }).push
      { cls := .ref C, data := .fields #[.ref h.objs.size, .none, .none, .none, .bool false, .none] }).get? (h.objs.size + 1) = some
      { cls := .ref C, data := .fields #[.ref h.objs.size, .none, .none, .none, .bool false, .none] } := by heap_get
  have hcC : (Value.ref C :: badM).contains (.ref C) = true := by simp
  unfold isInstance
  repeat (first | with_reducible refine wpAny_loadPart_at hget ?_ | (with_reducible refine wpAny_isSubtype_exc hC₁ ?_; rw [hcC]) | wp_step)
  show wpAny _ _ (typeLookup (.ref C) _) _ _ _
  refine wpAny_typeLookup_exc hC₁ hn₁ mro_syn init_syn ?_
  rw [hi]
  refine wpAny_holding (wpAny_bind ?_)
  unfold bindSpecial
  refine wpAny_bind (wpAny_typeOf (T := "function") ⟨_, hfI₁, hfc⟩ ?_)
  rw [if_pos (by decide)]
  refine wpAny_pure (wpAny_bind (wpAny_mono (hq _ (h.objs.size + 1) ⟨fun b o hb => Heap.get?_push_of_some _ (Heap.get?_push_of_some _ hb), Heap.get?_none_of_le (Nat.le_succ _), h.objs.size, hget, Heap.get?_none_of_le (Nat.le_refl _), ?_⟩) (fun r s' hr => ?_) fun _ _ x => x))
  · exact Heap.get?_push_of_some _ (Heap.get?_push_at rfl rfl)
  · obtain ⟨rfl, hQ⟩ := hr
    wp_walk
    exact hQ
theorem call_bad {mN : PySem.Str → Option Value} {rest : List Value} {fI : Addr} {oI : Obj} {Q : Value → Shared → Prop}
    (hC : h.get? C = some (badObj nm q C N bs hdct sn sub ab col dd k0 k1 k2 k3 k5)) (hn : h.Ns N mN) (hi : mN "__init__" = some (.ref fI))
    (hfI : h.get? fI = some oI) (hfc : oI.cls = .type "function")
    (hq : ∀ h' e, Heap.MadeExcOf h h' e (.ref C) rest →
      wpAny (model prog w) (A.under (.builtin "type.__call__" ⟨.ref C :: rest, []⟩)) (call (.ref fI) (.ref e :: rest)) (fun r s' => r = .none ∧ Q (.ref e) s') E ⟨h', g, d, t, os⟩) (hrest : rest.length ≤ sizeLine) :
    wpAny (model prog w) A (call (.ref C) rest) Q E ⟨h, g, d, t, os⟩ := by
  have f1 := tc_lookup
  have f2 := tc_bind (.ref C)
  have hT : (⟨h, g, d, t, os⟩ : Shared).TypeIs (.ref C) "type" := ⟨_, hC, rfl⟩
  refine wpAny_call (codeAny_of_tree ?_)
  show wpAny _ _ (callAny (.ref C) _) _ _ _
  repeat (any_goals (first | assumption | with_reducible refine wpAny_loadPart_at hC ?_ | wp_step))
  refine ⟨rfl, ?_⟩
  refine codeAny_call_builtin_at (Code.quiet_builtin _ (by decide +kernel)) entry_typeCall (wpAny_check_type_call_sub hC (type_call_bad hC hn hi hfI hfc (fun h' e hm => ?_) hrest))
  exact hq h' e hm
end
end Mine
namespace Mine
open Builtin Builtin.ObjectAttr
section
variable {prog : Program} {w : World} {A : Around} {E : Value → Shared → Prop} {h : Heap} {g : Array GenState} {d : Drawn} {t : Nat} {os : OsState}
variable {nm q : PySem.Str} {C N x : Addr} {bs : List Value} {sn : List PySem.Str} {sub : List Value} {ab : Bool} {col : Option Bool} {dd : Option Addr} {k0 k1 k2 k3 k5 : Option Value} {bm : List Value} {B newId sa owner : String}
  {mN mA : PySem.Str → Option Value} {name : PySem.Str} {v : Value}
theorem first_entry {tk : Tok} {o : Obj} {Q : Fin → Shared → Prop} (SF : StoreFacts B bm sa owner)
    (hC : h.get? C = some (excClassObj nm q C N bs bm true sn sub ab col dd k0 k1 k2 k3 k5 newId)) (hn : h.Ns N mN) (hna : mN name = none)
    (hB : typeLookup (.type B) name = pure none) (hx : h.get? x = some o) (hc : o.cls = .ref C) (hnc : ∀ c, o.data ≠ .cls c) (hdn : o.dict = none)
    (hq : ∀ h' tk' de, h.objs.size ≤ de → h'.Ns1 de (fun y => if y = name then some v else none) → h'.get? x = some { o with dict := some de } →
      (∀ b ob, b ≠ x → h.get? b = some ob → h'.get? b = some ob) → Q (.done (.ret .none)) ⟨h', g, d, tk', os⟩) :
    wpAny (model prog w) A (Builtin.«object.__setattr__» ⟨[.ref x, .str name tk, v], []⟩) Q E ⟨h, g, d, t, os⟩ := by
  have hpass := SF.passes (.ref x)
  unfold Builtin.«object.__setattr__»
  repeat (first | rw [refuse_eq] | (rw [refuseLoop_ref, hpass]) | (with_reducible refine wpAny_loadPart_at hx ?_; rw [hc]) | with_reducible refine wpAny_mroOf_exc hC ?_ | (with_reducible refine wpAny_typeLookup_exc hC hn SF.mro hB ?_; rw [hna]) | wp_step)
  rw [hdn, if_neg (by simp [typeHasDict])]
  split
  · rename_i hcd
    cases hcd
  split
  · rename_i c hcd
    exact absurd hcd (hnc c)
  have hx₁ : (h.push { cls := .type "dict", data := .dict #[] }).get? x = some o := Heap.get?_push_of_some _ hx
  have hxs : x ≠ h.objs.size := Nat.ne_of_lt (Heap.lt_size hx)
  refine wpAny_bind (wpAny_alloc' ?_)
  refine wpAny_bind (wpAny_update' hx₁ ?_)
  refine wpAny_pure ?_
  have hgd : ((h.push { cls := .type "dict", data := .dict #[] }).update x fun o => { cls := o.cls, dict := some h.objs.size, data := o.data, slots := o.slots }).get? h.objs.size
      = some { cls := .type "dict", data := .dict #[] } :=
    (Heap.get?_update_ne _ _ _ _ hxs.symm).trans (Heap.get?_push_at rfl rfl)
  have hnd : ((h.push { cls := .type "dict", data := .dict #[] }).update x fun o => { cls := o.cls, dict := some h.objs.size, data := o.data, slots := o.slots }).Ns h.objs.size (fun _ => none) :=
    ⟨_, #[], _, hgd, rfl, fun e he => absurd he (by simp), fun _ => rfl⟩
  show wpAny _ _ (storeInDict h.objs.size (.str name tk) name v) _ _ _
  unfold storeInDict newKeyGuard
  refine wpAny_bind (wpAny_pure (wpAny_bind (wpAny_nsSet1 (Heap.Ns1.of_empty hnd) fun h' hn' hs => ?_)))
  obtain ⟨oD, esD, epD, hoD, hdD, hcD⟩ := hn'.count (Within.cons name v Within.nil)
  refine wpAny_bind (wpAny_lookBehind hoD (by rw [hdD]; exact pastItsLine_dict (Nat.le_trans hcD (by rw [List.length_cons, List.length_nil, sizeLine_eq]; omega))) ?_)
  wp_walk
  refine hq h' _ h.objs.size (Nat.le_refl _) hn' ?_ fun b ob hbx hb => ?_
  · refine (hs.2 x hxs).trans (Heap.get?_update_self _ hx₁ ?_)
    have hfr := (Heap.get?_some_iff.mp hx).2
    obtain ⟨oc, od, odt, osl⟩ := o
    cases odt <;> first | rfl | exact hfr
  · exact (hs.2 b (Nat.ne_of_lt (Heap.lt_size hb))).trans ((Heap.get?_update_ne _ _ _ _ hbx).trans (Heap.get?_push_of_some _ hb))
theorem first_attr {o : Obj} {Q : Unit → Shared → Prop} (SF : StoreFacts B bm sa owner)
    (hC : h.get? C = some (excClassObj nm q C N bs bm true sn sub ab col dd k0 k1 k2 k3 k5 newId)) (hn : h.Ns N mN) (hns : mN "__setattr__" = none) (hna : mN name = none)
    (hB : typeLookup (.type B) name = pure none) (hx : h.get? x = some o) (hc : o.cls = .ref C) (hnc : ∀ c, o.data ≠ .cls c) (hdn : o.dict = none)
    (hq : ∀ h' tk' de, h.objs.size ≤ de → h'.Ns1 de (fun y => if y = name then some v else none) → h'.get? x = some { o with dict := some de } →
      (∀ b ob, b ≠ x → h.get? b = some ob → h'.get? b = some ob) → Q () ⟨h', g, d, tk', os⟩) :
    wpAny (model prog w) A (setAttr (.ref x) name v) Q E ⟨h, g, d, t, os⟩ := by
  have f3 := SF.slot.bind (.ref x)
  unfold setAttr callSpecial? specialOf
  repeat (any_goals (first | assumption | (with_reducible refine wpAny_loadPart_at hx ?_; rw [hc]) | (with_reducible refine wpAny_typeLookup_exc hC hn SF.mro SF.slot.lookup ?_; rw [hns]) | wp_step))
  refine codeAny_call_builtin SF.slot.plain SF.entry (wpAny_check_sa SF hC hx hc (first_entry SF hC hn hna hB hx hc hnc hdn fun h' tk' de l1 l2 l3 l4 => ?_))
  repeat (any_goals (first | assumption | wp_step))
  exact hq h' tk' de l1 l2 l3 l4
end
end Mine
namespace Mine
open Builtin Builtin.ObjectAttr
theorem ga_syn : Slot "SyntaxError" "__getattribute__" "BaseException.__getattribute__" :=
  .of (owner := "BaseException") (n := "__getattribute__") (by rw [typeLookup_type, builtinLookup_eq_fast]; kernel_rfl) (by decide +kernel) (by decide +kernel) (by decide +kernel)
    (by first | exact .inl (by decide +kernel) | exact .inr (by decide +kernel)) (by rw [isSubtype_type]; kernel_rfl)
theorem nogetattr_syn : typeLookup (.type "SyntaxError") "__getattr__" = pure none := by rw [typeLookup_type, builtinLookup_eq_fast]; kernel_rfl
section
variable {prog : Program} {w : World} {A : Around} {E : Value → Shared → Prop} {h : Heap} {g : Array GenState} {d : Drawn} {t : Nat} {os : OsState}
variable {nm q : PySem.Str} {C N x dx : Addr} {bs : List Value} {sn : List PySem.Str} {sub : List Value} {ab : Bool} {col : Option Bool} {dd : Option Addr} {k0 k1 k2 k3 k5 : Option Value} {bm : List Value} {B newId : String}
  {mN mA : PySem.Str → Option Value} {name : PySem.Str} {v : Value} {o : Obj}
theorem load_entry_ex {tk : Tok} {Q : Fin → Shared → Prop} (hbm : mroOf (.type B) = pure bm)
    (hC : h.get? C = some (excClassObj nm q C N bs bm true sn sub ab col dd k0 k1 k2 k3 k5 newId)) (hn : h.Ns N mN) (hna : mN name = none)
    (hB : typeLookup (.type B) name = pure none) (hx : h.get? x = some o) (hc : o.cls = .ref C) (hnc : ∀ c, o.data ≠ .cls c) (hdx : o.dict = some dx) (hns : h.Ns dx mA) (hv : mA name = some v) (hq : Q (.done (.ret v)) ⟨h, g, d, t, os⟩) :
    wpAny (model prog w) A (Builtin.«object.__getattribute__» ⟨[.ref x, .str name tk], []⟩) Q E ⟨h, g, d, t, os⟩ := by
  unfold Builtin.«object.__getattribute__»
  repeat (first | (with_reducible refine wpAny_loadPart_at hx ?_; rw [hc]) | (with_reducible refine wpAny_typeLookup_exc hC hn hbm hB ?_; rw [hna]) | wp_step)
  split
  · rename_i c hcd
    exact absurd hcd (hnc c)
  unfold instanceDict
  repeat (first | (with_reducible refine wpAny_loadPart_at hx ?_; rw [hc]) | with_reducible refine wpAny_loadPart_at hC ?_ | wp_step)
  rw [hdx]
  repeat (first | (with_reducible refine wpAny_nsGet hns ?_; rw [hv]) | wp_step)
  exact hq
theorem check_ga_ex {M : Model} {nameV : Value} {Q : Unit → Shared → Prop} (hcB : bm.contains (.type "BaseException") = true) (hC : h.get? C = some (excClassObj nm q C N bs bm true sn sub ab col dd k0 k1 k2 k3 k5 newId))
    (hx : h.get? x = some o) (hc : o.cls = .ref C) (hq : Q () ⟨h, g, d, t, os⟩) : wpAny M A (checkBuiltinCall "BaseException.__getattribute__" ⟨[.ref x, nameV], []⟩) Q E ⟨h, g, d, t, os⟩ := by
  have hk : builtinKind "BaseException.__getattribute__" = some .slot := by decide +kernel
  have hsplit : splitId "BaseException.__getattribute__" = some ("BaseException", "__getattribute__") := by decide +kernel
  have hcB : (Value.ref C :: bm).contains (.type "BaseException") = true := by rw [List.contains_cons, hcB]; rfl
  have ha := F.args_bexc_ga (.ref x) nameV
  simp only [checkBuiltinCall, hk, hsplit]
  refine wpAny_bind ?_
  · unfold isInstance
    repeat (first | (with_reducible refine wpAny_loadPart_at hx ?_; rw [hc]) | (with_reducible refine wpAny_isSubtype_exc hC ?_; rw [hcB]) | wp_step)
    exact hq
theorem load_attr_ex {expr : Bool} {Q : Value → Shared → Prop} (hbm : mroOf (.type B) = pure bm) (hcB : bm.contains (.type "BaseException") = true) (GA : Slot B "__getattribute__" "BaseException.__getattribute__") (NG : typeLookup (.type B) "__getattr__" = pure none)
    (hC : h.get? C = some (excClassObj nm q C N bs bm true sn sub ab col dd k0 k1 k2 k3 k5 newId)) (hn : h.Ns N mN) (hng : mN "__getattribute__" = none) (hnh : mN "__getattr__" = none) (hna : mN name = none)
    (hB : typeLookup (.type B) name = pure none) (hx : h.get? x = some o) (hc : o.cls = .ref C) (hnc : ∀ c, o.data ≠ .cls c) (hdx : o.dict = some dx) (hns : h.Ns dx mA) (hv : mA name = some v) (hh : handedOut v = pure v) (hq : Q v ⟨h, g, d, t + 1, os⟩) :
    wpAny (model prog w) A (getAttr (.ref x) name expr) Q E ⟨h, g, d, t, os⟩ := by
  have f3 := GA.bind (.ref x)
  have hx0 : (expr && onTheHeap (Value.builtin "BaseException.__getattribute__")) = false := by cases expr <;> rfl
  have hx2 : (Value.builtin "BaseException.__getattribute__" == Value.builtin "object.__getattribute__") = false := by decide +kernel
  have hx1 : (onTheHeap (Value.ref C) && Value.builtin "BaseException.__getattribute__" == Value.builtin "object.__getattribute__") = false := by rw [hx2]; rfl
  unfold getAttr
  repeat (any_goals (first | assumption | (with_reducible refine wpAny_loadPart_at hx ?_; rw [hc]) | (with_reducible refine wpAny_typeLookup_exc hC hn hbm GA.lookup ?_; rw [hng]) | (with_reducible refine wpAny_typeLookup_exc hC hn hbm NG ?_; rw [hnh]) | wp_step))
  refine codeAny_call_builtin GA.plain F.entry_bexc_ga (check_ga_ex hcB hC hx hc (load_entry_ex hbm hC hn hna hB hx hc hnc hdx hns hv ?_))
  repeat (any_goals (first | assumption | wp_step))
end
end Mine
namespace Mine
/-- a tree that calls nothing and keeps every object's dict and class -/
def Kd {α : Type} : Sem α → Prop
  | .pure _ => True
  | .raise _ => True
  | .unsupported _ => True
  | .finish _ => True
  | .rule _ k => ∀ x, Kd (k x)
  | .at _ k => ∀ x, Kd (k x)
  | .load _ _ k => ∀ o, Kd (k o)
  | .update _ _ f k => (∀ o : Obj, (f o).dict = o.dict ∧ (f o).cls = o.cls) ∧ ∀ x, Kd (k x)
  | .alloc _ k => ∀ a, Kd (k a)
  | .point _ k => ∀ x, Kd (k x)
  | .stack k => ∀ x, Kd (k x)
  | _ => False
def DictAt (s : Shared) (e : Addr) (c : Value) (d : Option Addr) : Prop := ∃ o, s.heap.objs[e]? = some o ∧ o.dict = d ∧ o.cls = c
theorem Kd.bind {α β : Type} {t : Sem α} {f : α → Sem β} (h : Kd t) (hf : ∀ a, Kd (f a)) : Kd (t >>= f) := by
  show Kd (t.bind f)
  induction t with
  | pure a => exact hf a
  | raise | unsupported | finish => trivial
  | rule _ k ih | «at» _ k ih | alloc _ k ih | point _ k ih | stack k ih | load _ _ k ih => exact fun x => ih x (h x)
  | update _ _ g k ih => exact ⟨h.1, fun x => ih x (h.2 x)⟩
  | loadIfAlive | register | fresh | ask | choose | os | call | handled | newGen | genState | resume | yield | fork | thread | await => exact h.elim
section
variable {α : Type} {M : Model} {A : Around}
theorem Kd.wp {Γ : Ctx} {e : Addr} {c : Value} {d : Option Addr} {Q : α → Pos → Shared → Prop} {E : Value → Pos → Shared → Prop} (t : Sem α) (h : Kd t) : ∀ (p : Pos) (s : Shared), DictAt s e c d → Sem.wp M Γ t Q E p s →
    Sem.wp M Γ t (fun a p' s' => Q a p' s' ∧ DictAt s' e c d) (fun x p' s' => E x p' s' ∧ DictAt s' e c d) p s := by
  induction t with
  | pure a => intro p s hd hq; rw [Sem.wp_pure] at hq ⊢; exact ⟨hq, hd⟩
  | raise x => intro p s hd hq; rw [Sem.wp_raise] at hq ⊢; exact ⟨hq, hd⟩
  | unsupported | finish => intro p s hd hq; simp at hq
  | rule _ k ih => intro p s hd hq; rw [Sem.wp_rule] at hq ⊢; exact ih _ (h _) p s hd hq
  | «at» _ k ih => intro p s hd hq; rw [Sem.wp_at] at hq ⊢; exact ih _ (h _) _ s hd hq
  | load a _ k ih =>
    intro p s hd hq
    rw [Sem.wp_load] at hq ⊢
    obtain ⟨o, ho, hq⟩ := hq
    exact ⟨o, ho, ih _ (h _) p s hd hq⟩
  | update a _ f k ih =>
    intro p s hd hq
    rw [Sem.wp_update] at hq ⊢
    refine ⟨hq.1, ih _ (h.2 _) p _ ?_ hq.2⟩
    obtain ⟨o, ho, h1, h2⟩ := hd
    have hu : (s.heap.update a f).objs = s.heap.objs.modify a f := rfl
    by_cases ha : a = e
    · subst ha
      refine ⟨f o, ?_, (h.1 o).1.trans h1, (h.1 o).2.trans h2⟩
      show (s.heap.update a f).objs[a]? = _
      rw [hu, Array.getElem?_modify, if_pos rfl, ho]
      rfl
    · refine ⟨o, ?_, h1, h2⟩
      show (s.heap.update a f).objs[e]? = _
      rw [hu, Array.getElem?_modify, if_neg ha, ho]
  | alloc o k ih =>
    intro p s hd hq
    rw [Sem.wp_alloc] at hq ⊢
    refine ih _ (h _) p _ ?_ hq
    obtain ⟨o', ho, h1, h2⟩ := hd
    refine ⟨o', ?_, h1, h2⟩
    have hu : (s.heap.push o).objs = s.heap.objs.push o := rfl
    show (s.heap.push o).objs[e]? = _
    have hlt : e < s.heap.objs.size := (Array.getElem?_eq_some_iff.mp ho).1
    rw [hu, Array.getElem?_push_lt hlt, ← Array.getElem?_eq_getElem hlt, ho]
  | point _ k ih => intro p s hd hq; rw [Sem.wp_point] at hq ⊢; exact ih _ (h _) p s hd hq
  | stack k ih => intro p s hd hq; rw [Sem.wp_stack] at hq ⊢; exact ih _ (h _) p s hd hq
  | loadIfAlive | register | fresh | ask | choose | os | call | handled | newGen | genState | resume | yield | fork | thread | await => exact h.elim
theorem Kd.any {e : Addr} {c : Value} {d : Option Addr} {Q : α → Shared → Prop} {E : Value → Shared → Prop} {t : Sem α} {s : Shared} (h : Kd t) (hd : DictAt s e c d) (hq : wpAny M A t Q E s) :
    wpAny M A t (fun a s' => Q a s' ∧ DictAt s' e c d) (fun x s' => E x s' ∧ DictAt s' e c d) s := fun Γ p hΓ => Kd.wp t h p s hd (hq Γ p hΓ)
end
theorem kd_unsup {α : Type} (x : String) : Kd (unsupported x : Sem α) := trivial
theorem kd_pure {α : Type} (a : α) : Kd (pure a : Sem α) := trivial
theorem kd_ite {α : Type} {c : Prop} [Decidable c] {x y : Sem α} (hx : Kd x) (hy : Kd y) : Kd (if c then x else y) := by
  split <;> assumption
theorem kd_stack : Kd stack := fun _ => trivial
theorem kd_load (a : Addr) : Kd (load a) := fun _ => trivial
theorem kd_fieldsOf (v : Value) : Kd (fieldsOf v) := by
  unfold fieldsOf
  split
  · refine Kd.bind (kd_load _) fun o => ?_
    split <;> trivial
  · trivial
theorem kd_field (v : Value) (i : Nat) : Kd (field v i) := by
  unfold field
  refine Kd.bind (kd_fieldsOf _) fun o => ?_
  split <;> trivial
theorem map_keeps (f : Array Value → Array Value) (o : Obj) : (Obj.mapFields f o).dict = o.dict ∧ (Obj.mapFields f o).cls = o.cls := by
  unfold Obj.mapFields
  split <;> exact ⟨rfl, rfl⟩
theorem kd_setField (v : Value) (i : Nat) (x : Value) : Kd (setField v i x) := by
  unfold setField
  split
  · unfold updateField
    refine Kd.bind (kd_load _) fun o => ?_
    split
    · exact kd_ite ⟨map_keeps _, fun _ => trivial⟩ trivial
    · trivial
  · trivial
theorem kd_asIs (ty : String) (dt : Data) : Kd (newObjAsIs (.type ty) dt none) := by
  unfold newObjAsIs
  exact Kd.bind (t := alloc _) (fun _ => trivial) fun a => trivial
theorem kd_newFields (ty : String) (vs : List Value) : Kd (newFields ty vs) := by
  unfold newFields newObj
  dsimp only
  refine kd_ite ?_ ?_
  · exact Kd.bind (kd_unsup _) fun _ => kd_asIs _ _
  · exact kd_asIs _ _
theorem kd_under : Kd underTheClaimsCaller := by
  unfold underTheClaimsCaller
  exact Kd.bind kd_stack fun _ => trivial
theorem kd_back (env : Env) (b : Bool) (l : List Env) : Kd (keptBack env b l) := by
  unfold keptBack
  split
  · exact kd_ite trivial (Kd.bind kd_under fun _ => trivial)
  · trivial
theorem kd_behind (env : Env) (l : List Env) : Kd (behindIsImport env l) := by
  unfold behindIsImport
  refine kd_ite trivial ?_
  refine kd_ite trivial ?_
  exact Kd.bind (kd_field _ _) fun _ => trivial
theorem kd_ready : ∀ l : List Env, Kd (readyFrames l)
  | [] => trivial
  | env :: outer => by
    unfold readyFrames
    split
    · refine Kd.bind (kd_load _) fun o => ?_
      refine kd_ite trivial ?_
      refine Kd.bind (kd_behind _ _) fun b => ?_
      refine Kd.bind (kd_back _ _ _) fun k => ?_
      refine Kd.bind (t := update _ _) ⟨fun o => ⟨rfl, rfl⟩, fun _ => trivial⟩ fun _ => ?_
      exact kd_ready outer
    · trivial
theorem kd_object : ∀ l : List Env, Kd (frameObject l)
  | [] => trivial
  | env :: outer => by
    unfold frameObject
    exact Kd.bind (kd_ready _) fun _ => trivial
theorem kd_frameOf (env : Env) : Kd (PySem.frameOf env) := by
  unfold PySem.frameOf frameEnvs
  refine Kd.bind (Kd.bind kd_stack fun _ => trivial) fun l => ?_
  refine Kd.bind (kd_object _) fun o => ?_
  split <;> trivial
theorem kd_place (f : Addr) (b : Bool) : Kd (entryPlaceOf f b) := by
  unfold entryPlaceOf
  refine Kd.bind kd_stack fun o => ?_
  split <;> trivial
theorem kd_noteFrame (e : Value) (env : Env) : Kd (noteFrame e env) := by
  have put : ∀ (f : Addr) (head : Value), Kd (do
      let a ← PySem.frameOf env
      let pl ← entryPlaceOf f (head != .none)
      let b ← EntryCells.newEntry head a .none (rawInt f) .none pl
      setField e 1 b) := fun f head => by
    refine Kd.bind (kd_frameOf _) fun a => ?_
    refine Kd.bind (kd_place _ _) fun pl => ?_
    unfold EntryCells.newEntry
    exact Kd.bind (kd_newFields _ _) fun b => kd_setField _ _ _
  unfold noteFrame
  split
  · refine Kd.bind (kd_field _ _) fun head => ?_
    refine kd_ite ?_ (put _ _)
    refine Kd.bind (kd_field _ _) fun fl => ?_
    refine kd_ite trivial ?_
    exact Kd.bind (kd_setField _ _ _) fun _ => put _ _
  · trivial
theorem kd_setFlight (e : Value) (fr : Option Addr) : Kd (setFlight e fr) := by
  unfold setFlight
  refine Kd.bind (kd_field _ _) fun tb => ?_
  split
  · exact kd_setField _ _ _
  · trivial
theorem kd_leaving (env : Env) (e : Value) : Kd (leaving env e) := by
  unfold leaving
  exact Kd.bind (kd_noteFrame _ _) fun _ => kd_setFlight _ _
end Mine
namespace Mine
theorem fill4 : PySem.Challenge.rw_ew5020_01 = PySem.Challenge.rw_ew5020_01 ∧ hd.heap_39 = hd.heap_39 := by
  k_fill
  exact ⟨rfl, rfl⟩
def exNames : List Str := [Str.ofString "_str", Str.ofString "_i", Str.ofString "_why", Str.ofString "lines", Str.ofString "_uri"]
theorem ex_noattr : ∀ n ∈ exNames, typeLookup (.type "SyntaxError") n = pure none := by
  unfold exNames
  refine List.forall_mem_cons.mpr ⟨by rw [typeLookup_type, builtinLookup_eq_fast]; kernel_rfl, ?_⟩
  refine List.forall_mem_cons.mpr ⟨by rw [typeLookup_type, builtinLookup_eq_fast]; kernel_rfl, ?_⟩
  refine List.forall_mem_cons.mpr ⟨by rw [typeLookup_type, builtinLookup_eq_fast]; kernel_rfl, ?_⟩
  refine List.forall_mem_cons.mpr ⟨by rw [typeLookup_type, builtinLookup_eq_fast]; kernel_rfl, ?_⟩
  refine List.forall_mem_cons.mpr ⟨by rw [typeLookup_type, builtinLookup_eq_fast]; kernel_rfl, ?_⟩
  exact List.forall_mem_nil _
def BadCls (h : Heap) : Prop := ∃ nm q bs sn sub ab col dd k0 k1 k2 k3 k5 mN oI, h.get? 141 = some (badObj nm q 141 140 bs true sn sub ab col dd k0 k1 k2 k3 k5) ∧ h.Ns 140 mN ∧ mN "__init__" = some (.ref 138) ∧ mN "__setattr__" = none ∧ mN "__getattribute__" = none ∧ mN "__getattr__" = none ∧ (∀ n ∈ exNames, mN n = none) ∧ h.get? 138 = some oI ∧ oI.cls = .type "function"
theorem BadCls.of {h : Heap} {nm q bs sn sub ab col dd k0 k1 k2 k3 k5 mN oI} (h1 : h.get? 141 = some (badObj nm q 141 140 bs true sn sub ab col dd k0 k1 k2 k3 k5)) (h2 : h.Ns 140 mN) (h3 : mN "__init__" = some (.ref 138)) (h4 : mN "__setattr__" = none) (h5 : mN "__getattribute__" = none) (h6 : mN "__getattr__" = none) (h7 : ∀ n ∈ exNames, mN n = none) (h8 : h.get? 138 = some oI) (h9 : oI.cls = .type "function") : BadCls h :=
  ⟨nm, q, bs, sn, sub, ab, col, dd, k0, k1, k2, k3, k5, mN, oI, h1, h2, h3, h4, h5, h6, h7, h8, h9⟩
theorem BadCls.keeps {h h' : Heap} (B : BadCls h) (k : ∀ b o, h.get? b = some o → h'.get? b = some o) : BadCls h' := by
  obtain ⟨nm, q, bs, sn, sub, ab, col, dd, k0, k1, k2, k3, k5, mN, oI, h1, h2, h3, h4, h5, h5', h6, h7, h8⟩ := B
  exact ⟨nm, q, bs, sn, sub, ab, col, dd, k0, k1, k2, k3, k5, mN, oI, k _ _ h1, h2.keeps k, h3, h4, h5, h5', h6, k _ _ h7, h8⟩
theorem ns_lit {h : Heap} {N : Addr} {cl : Value} {dct : Option Addr} {es : Array DictEntry} {ep : Nat} {sl : Array (Option Value)} (e : h.get? N = some ⟨cl, dct, .dict es ep, sl⟩) (hk : StrKeys es) : h.Ns N (nsFind es) := ⟨_, es, ep, e, rfl, hk, fun _ => rfl⟩
theorem obj_in {K : Frag} {h : Heap} {a : Addr} {o : Obj} (X : K.In h) (e : K.lookup a = some o) : h.get? a = some o := X _ _ e
theorem badCls_K {w : World} {h : Heap} (X : (hd.heap_39 w.params).In h) : BadCls h := by
  refine' BadCls.of (obj_in X ?h1) (ns_lit (obj_in X ?h2) ?hk) ?h3 ?h4 ?h5 ?h6 ?h7 (obj_in X ?h8) ?h9
  case h1 => k_is
  case h2 => k_is
  case h8 => k_is
  case h9 => rfl
  case hk =>
    intro e he
    simp only [List.mem_cons, List.not_mem_nil, or_false, Array.mem_def] at he
    rcases he with rfl | rfl | rfl | rfl | rfl | rfl | rfl | rfl <;> exact ⟨_, _, rfl⟩
  case h3 => rfl
  case h4 => rfl
  case h5 => rfl
  case h6 => rfl
  case h7 =>
    unfold exNames
    refine List.forall_mem_cons.mpr ⟨by rfl, ?_⟩
    refine List.forall_mem_cons.mpr ⟨by rfl, ?_⟩
    refine List.forall_mem_cons.mpr ⟨by rfl, ?_⟩
    refine List.forall_mem_cons.mpr ⟨by rfl, ?_⟩
    refine List.forall_mem_cons.mpr ⟨by rfl, ?_⟩
    exact List.forall_mem_nil _

/-- the exception e in the making: its dict, once it has one, stands apart from the ledger -/
structure ExIn (h₀ : Heap) (L : Addr) (h : Heap) (news : List (Addr × Obj)) (e ta : Addr) (mE : Str → Option Value) (n : Nat) : Prop where
  obj : ∃ oe, h.get? e = some oe ∧ oe.cls = .ref 141 ∧ oe.data = .fields #[.ref ta, .none, .none, .none, .bool false, .none] ∧
    ((oe.dict = none ∧ mE = fun _ => none) ∨ ∃ de, oe.dict = some de ∧ de ≠ e ∧ h.Ns1 de mE ∧ de ≠ L ∧ h₀.get? de = none ∧ ∀ p ∈ news, p.1 ≠ de)
  offL : e ≠ L
  off₀ : h₀.get? e = none
  offN : ∀ p ∈ news, p.1 ≠ e
  few : ∃ ns, Within mE ns ∧ ns.length = n
section
variable {prog : Program} {w : World} {A : Around} {E : Value → Shared → Prop} {s : Shared} {h₀ : Heap} {L e ta : Addr} {m mE : Str → Option Value} {news : List (Addr × Obj)} {n : Nat} {name : Str} {v : Value}
theorem set_ex {Q : Unit → Shared → Prop} (F : Fr h₀ L s.heap m) (N : News h₀ L s.heap news) (B : BadCls h₀) (I : ExIn h₀ L s.heap news e ta mE n) (hn : name ∈ exNames) (hsz : n ≤ 100)
    (h : ∀ h' tk', Fr h₀ L h' m → News h₀ L h' news → ExIn h₀ L h' news e ta (fun y => if y = name then some v else mE y) (n + 1) → Q () { s with heap := h', toks := tk' }) :
    wpAny (model prog w) A (setAttr (.ref e) name v) Q E s := by
  obtain ⟨⟨oe, he, hc, hd, hor⟩, i1, i2, i3, ns, hw, hl⟩ := I
  obtain ⟨nm, q, bs, sn, sub, ab, col, dd, k0, k1, k2, k3, k5, mN, oI, b1, b2, b3, b4, b5, b6, b7, b8, b9⟩ := B.keeps F.keep
  have hnc : ∀ c, oe.data ≠ .cls c := fun c q => by rw [hd] at q; cases q
  have heC : e ≠ 141 := fun q => by
    obtain ⟨_, _, _, _, _, _, _, _, _, _, _, _, _, _, _, c1, _⟩ := B
    rw [q, c1] at i2; cases i2
  obtain ⟨oL, _, _, hL, _⟩ := id F.ns
  rcases hor with ⟨hdn, rfl⟩ | ⟨de, hde, d1, d2, d3, d4, d5⟩
  · refine first_attr store_syn b1 b2 b4 (b7 _ hn) (ex_noattr _ hn) he hc hnc hdn fun h' tk' de l1 l2 l3 l4 => ?_
    have keep : ∀ b ob, b ≠ e → s.heap.get? b = some ob → h'.get? b = some ob := l4
    have lt : ∀ b ob, s.heap.get? b = some ob → b ≠ de := fun b ob q => Nat.ne_of_lt (Nat.lt_of_lt_of_le (Heap.lt_size q) l1)
    refine h h' tk' ⟨Heap.Ns.at' F.ns fun o q => keep _ _ i1.symm q, fun b o q => keep b o (fun z => by rw [z, i2] at q; cases q) (F.keep b o q), F.above⟩ (fun p hp => ⟨keep _ _ (i3 p hp) (N p hp).1, (N p hp).2⟩) ?_
    refine ⟨⟨_, l3, hc, hd, .inr ⟨de, rfl, (lt _ _ he).symm, l2, (lt _ _ hL).symm, ?_, fun p hp => lt _ _ (N p hp).1⟩⟩, i1, i2, i3, name :: ns, Within.cons name v hw, by rw [List.length_cons, hl]⟩
    cases q : h₀.get? de with
    | none => rfl
    | some o => exact absurd rfl (lt _ _ (F.keep _ _ q))
  · refine store_attr store_syn b1 b2 b4 (b7 _ hn) (ex_noattr _ hn) heC ⟨oe, he, hc, hnc, .inr ⟨de, hde, d1, d2⟩⟩ (fun h' tk' I' l4 l5 => ?_) hw (by rw [hl, sizeLine_eq]; omega)
    have keep : ∀ b ob, b ≠ e → b ≠ de → s.heap.get? b = some ob → h'.get? b = some ob := fun b ob q1 q2 q => l4 b ob q1 (fun o₀ dx z1 z2 => by
      rw [he] at z1; cases z1
      rw [hde] at z2; cases z2
      exact q2) q
    obtain ⟨oe', he', hc', hd', _, hdict⟩ := l5 oe he
    refine h h' tk' ⟨Heap.Ns.at' F.ns fun o q => keep _ _ i1.symm d3.symm q, fun b o q => keep b o (fun z => by rw [z, i2] at q; cases q) (fun z => by rw [z, d4] at q; cases q) (F.keep b o q), F.above⟩ (fun p hp => ⟨keep _ _ (i3 p hp) (d5 p hp) (N p hp).1, (N p hp).2⟩) ?_
    refine ⟨⟨oe', he', hc'.trans hc, hd'.trans hd, .inr ⟨de, hdict _ hde, d1, ?_, d3, d4, d5⟩⟩, i1, i2, i3, name :: ns, Within.cons name v hw, by rw [List.length_cons, hl]⟩
    obtain ⟨o2, g1, _, _, g2⟩ := I'
    rw [he'] at g1; cases g1
    rcases g2 with ⟨z, _⟩ | ⟨dx, z1, _, z2⟩
    · rw [hdict _ hde] at z; cases z
    · rw [hdict _ hde] at z1; cases z1
      exact z2
end
end Mine
namespace Mine
theorem fill5x : PySem.Challenge.rw_ew5020_01 = PySem.Challenge.rw_ew5020_01 ∧ hd.heap_39 = hd.heap_39 := by
  k_fill
  exact ⟨rfl, rfl⟩
def tupO (vs : List Value) : Obj := { cls := .type "tuple", data := .seq vs.toArray }
/-- what a raised BadSyntax bears -/
def exMap (b : Array UInt8) (kb : Tok) (u : Str) (tu : Tok) (ln : Int) (tl : Tok) (i : Int) (ti : Tok) (why : Str) (tw : Tok) : Str → Option Value := fun y =>
  if y = Str.ofString "_uri" then some (.str u tu) else if y = Str.ofString "lines" then some (.int ln tl) else if y = Str.ofString "_why" then some (.str why tw) else if y = Str.ofString "_i" then some (.int i ti) else if y = Str.ofString "_str" then some (.bytes b kb) else none
section
local macro_rules | `(tactic| walk_at "setAttr ref") => `(tactic| ((rename ExIn _ _ _ _ _ _ _ _ => lI); k_dflt (refine' set_ex ?k1 ?k2 ?k3 lI ?k4 ?k5 ?_; (case k1 => k_asm); (case k2 => k_asm); (case k3 => assumption); (case k4 => decide +kernel); (case k5 => decide)); clear lI; intro h' tk' F' N' I'; (try dsimp only)))
local macro_rules | `(tactic| walk_at "call builtin:str.encode") => `(tactic| (refine' call_encode ?k1 ?k2 ?k3 ?_; (case k1 => omega); (case k2 => assumption); (case k3 => assumption); intro b' k' tk'; (try dsimp only)))
local macro_rules | `(tactic| walk_at "getMethod str") => `(tactic| ((with_reducible show wpAny _ _ (getMethod (Value.str _ _) (Str.ofString "encode") _) _ _ _); refine getMethod_builtin (typeIs_str _ _ _) F.plainAttrs_str F.slot_str_encode F.type_str_encode (fun a q => nomatch q) ?_))
local macro_rules | `(tactic| walk_at "LeaveK") => `(tactic| refine Mark.on (n := 7) ?_)
local macro_rules | `(tactic| walk_at "mine none") => `(tactic| fail "none")
theorem bad_claim {prog : Program} {w : World} {loose : List Str} {mean : ExcName → Option Value} {mg mb : Str → Option Value} {news : List (Addr × Obj)}
    (dp un : Nat) (gd : Option (List Code)) (cn : Str) (cs : Scope) (a : Addr) (ccd : Value) (cl : List (Str × Addr)) (outer : List Env) (A₀ : Around) (base h₀ : Heap) (L : Addr) (m : Str → Option Value) (s : Shared) (Q E : Value → Shared → Prop)
    (u t why : Str) (tu tl tk ti tw : Tok) (ln i : Int)
    (B : Below A₀ base outer h₀) (F : Fr h₀ L s.heap m) (X : (hd.heap_39 w.params).In h₀) (N : News h₀ L s.heap news) (T : Top hd.view_39 loose mean mg mb h₀) (hk : cs.kind = .function)
    (hd1 : dp + 5 < recursionLimit) (hun : un + 50 < cLine)
    (hlen : 3 ≤ t.length) (hmax : t.length ≤ 100) (hcl : Clean t)
    (hq : ∀ e de ta oe od b kb h' tk', oe.cls = .ref 141 → oe.dict = some de → oe.data = .fields #[.ref ta, .none, .none, .none, .bool false, .none] → (∃ es ep, od.data = .dict es ep ∧ StrKeys es ∧ UniqKeys es ∧ ∀ name, nsFind es name = exMap b kb u tu ln tl i ti why tw name) → (∀ p ∈ news, p.1 ≠ e ∧ p.1 ≠ ta) →
      Fr h₀ L h' m → News h₀ L h' ((e, oe) :: (de, od) :: (ta, tupO [.str u tu, .int ln tl, .str t tk, .int i ti, .str why tw]) :: news) → Q (.ref e) { s with heap := h', toks := tk' }) :
    wpAny (model prog w) (ktrTop dp un gd cn cs L a ccd cl outer) (call (.ref 141) [.str u tu, .int ln tl, .str t tk, .int i ti, .str why tw]) Q E s := by
  have BC := badCls_K X
  obtain ⟨nm, q, bs, sn, sub, ab, col, dd, k0, k1, k2, k3, k5, mN, oI, b1, b2, b3, b4, b5, b6, b7, b8, b9⟩ := BC.keeps F.keep
  obtain ⟨hp, gg, dr, tkk, os⟩ := s
  refine call_bad b1 b2 b3 b8 b9 (fun h' e hm => ?_) (by rw [sizeLine_eq]; simp)
  obtain ⟨ta, he, htn, ht⟩ := hm.there
  have F1 : Fr h₀ L h' m := ⟨F.ns.keeps hm.keeps, fun b o q => hm.keeps _ _ (F.keep b o q), F.above⟩
  have none₀ : ∀ b, hp.get? b = none → h₀.get? b = none := fun b hb => by
    cases q : h₀.get? b with
    | none => rfl
    | some o => have := F.keep _ _ q; rw [hb] at this; cases this
  have offL : ∀ b, hp.get? b = none → b ≠ L := fun b hb z => by
    obtain ⟨oL, _, _, hL, _⟩ := id F.ns
    rw [z, hL] at hb; cases hb
  have N1 : News h₀ L h' ((e, { cls := .ref 141, data := .fields #[.ref ta, .none, .none, .none, .bool false, .none] }) :: (ta, tupO [.str u tu, .int ln tl, .str t tk, .int i ti, .str why tw]) :: news) := by
    intro p hpm
    rcases List.mem_cons.mp hpm with rfl | hpm
    · exact ⟨he, offL _ hm.new, none₀ _ hm.new⟩
    rcases List.mem_cons.mp hpm with rfl | hpm
    · exact ⟨ht, offL _ htn, none₀ _ htn⟩
    · exact ⟨hm.keeps _ _ (N p hpm).1, (N p hpm).2⟩
  have hne : e ≠ ta := fun z => by rw [z, ht] at he; cases he
  have hoff : ∀ p ∈ (ta, tupO [.str u tu, .int ln tl, .str t tk, .int i ti, .str why tw]) :: news, p.1 ≠ e := by
    intro p hpm
    rcases List.mem_cons.mp hpm with rfl | hpm
    · exact hne.symm
    · intro z
      have := (N p hpm).1
      rw [z, hm.new] at this; cases this
  have hfr : ∀ p ∈ news, p.1 ≠ e ∧ p.1 ≠ ta := fun p hpm => ⟨hoff p (.tail _ hpm), fun z => by
    have := (N p hpm).1
    rw [z, htn] at this; cases this⟩
  w_top off
  k_with_none
  refine wpAny_call ?_
  k_dflt cell_enter
  rename Fr _ _ _ _ => lF
  rename News _ _ _ _ => lN
  rename Below _ _ _ _ => lB
  rename (hd.heap_39 w.params).In _ => lX
  have BC2 := badCls_K lX
  have lI : ExIn _ _ _ ((ta, tupO [.str u tu, .int ln tl, .str t tk, .int i ti, .str why tw]) :: news) e ta (fun _ => none) 0 :=
    ⟨⟨_, (lN _ (.head _)).1, rfl, rfl, .inl ⟨rfl, rfl⟩⟩, (lN _ (.head _)).2.1, (lN _ (.head _)).2.2, hoff, [], Within.nil, rfl⟩
  have lM : News _ _ _ ((ta, tupO [.str u tu, .int ln tl, .str t tk, .int i ti, .str why tw]) :: news) := fun p hp => lN p (.tail _ hp)
  clear lN
  k_steps
  refine Mark.off ?_
  rename ExIn _ _ _ _ _ _ _ _ => lJ
  rename News _ _ _ _ => lP
  obtain ⟨⟨oe, he2, hc, hd, hor⟩, i1, i2, i3, _⟩ := lJ
  rcases hor with ⟨_, z⟩ | ⟨de, hde, d1, d2, d3, d4, d5⟩
  · have := congrFun z (Str.ofString "_uri")
    simp at this
  obtain ⟨od, es, ep, g1, g2, g3, g4, g5⟩ := d2
  refine leaveK_ (news' := (e, oe) :: (de, od) :: (ta, tupO [.str u tu, .int ln tl, .str t tk, .int i ti, .str why tw]) :: news) (by assumption) ?_ ?_
  · intro p hp
    rcases List.mem_cons.mp hp with rfl | hp
    · exact ⟨he2, i1, i2⟩
    rcases List.mem_cons.mp hp with rfl | hp
    · exact ⟨g1, d3, d4⟩
    exact lP p hp
  · intro kF kN
    exact ⟨rfl, hq e de ta oe od _ _ _ _ hc hde hd ⟨es, ep, g2, g3, g4, g5⟩ hfr kF kN⟩
end
end Mine
namespace Mine
def RaiseC (E : Value → Shared → Prop) (v : Value) (s₁ : Shared) : Prop :=
  ∃ e oe ta, v = .ref e ∧ BadCls s₁.heap ∧ s₁.heap.get? e = some oe ∧ oe.cls = .ref 141 ∧ oe.data = .fields #[.ref ta, .none, .none, .none, .bool false, .none] ∧ E (.ref e) s₁
theorem RaiseC.of {E : Value → Shared → Prop} {s₁ : Shared} {e ta : Addr} {oe : Obj} (B : BadCls s₁.heap) (h1 : s₁.heap.get? e = some oe) (h2 : oe.cls = .ref 141) (h3 : oe.data = .fields #[.ref ta, .none, .none, .none, .bool false, .none]) (h : E (.ref e) s₁) : RaiseC E (.ref e) s₁ :=
  ⟨e, oe, ta, rfl, B, h1, h2, h3, h⟩
section
variable {M : Model} {A : Around} {E : Value → Shared → Prop} {s : Shared} {env : Env}
theorem Raise_own {x : Expr} {pos : Pos} {Q : Flow → Shared → Prop} (hh : A.handled = none)
    (h : wpAny M A (eval x env) (RaiseC E) E s) : wpAny M A (exec (.Raise (some x) none pos) env) Q E s := by
  show wpAny M A (do standAt pos; raiseStmt env (some (do let v ← eval x env; standAt pos; pure v)) none) Q E s
  refine wpAny_bind (wpAny_standAt ?_)
  have hcB : (Value.ref 141 :: badM).contains (.type "BaseException") = true := by rw [List.contains_cons]; rfl
  unfold raiseStmt
  dsimp only
  refine wpAny_bind (wpAny_bind (wpAny_mono h (fun v s₁ h₁ => wpAny_bind (wpAny_standAt (wpAny_pure ?_))) fun _ _ x => x))
  obtain ⟨e, oe, ta, rfl, ⟨nm, q, bs, sn, sub, ab, col, dd, k0, k1, k2, k3, k5, mN, oI, hC, _⟩, he, hc, hd, hE⟩ := h₁
  obtain ⟨hp, g, d, tk, os⟩ := s₁
  obtain ⟨oc, od, odt, osl⟩ := oe
  cases hc
  cases hd
  repeat (first | with_reducible refine wpAny_loadPart_at he ?_ | with_reducible refine wpAny_loadPart_at hC ?_ | (with_reducible refine wpAny_isSubtype_exc hC ?_; rw [hcB]) | wp_step)
  exact wpAny_raiseNew_none hh hE
end
section
variable {M : Model} {A : Around} {E : Value → Shared → Prop} {s' : Shared} {base g : Heap} {outer : List Env} {L a e ta de : Addr} {m : Str → Option Value} {name : Str} {scope : Scope} {cd : Value} {Q : Unit → Shared → Prop} {news : List (Addr × Obj)}
theorem leave_bad {vs : List Value} {oe : Obj} (K : Below A base outer g) (F : Fr g L s'.heap m) (N : News g L s'.heap ((e, oe) :: (ta, tupO vs) :: news))
    (hc : oe.cls = .ref 141) (hde : oe.dict = some de) (hd : oe.data = .fields #[.ref ta, .none, .none, .none, .bool false, .none]) (hnew : ∀ p ∈ news, p.1 ≠ e ∧ p.1 ≠ ta)
    (hQ : ∀ h', RaisedS base g outer e (.ref 141) ta vs news h' → g.UpToSlots h' → DictAt { s' with heap := h' } e (.ref 141) (some de) → Q () { s' with heap := h' }) (hk : scope.kind = .function) :
    wpAny M (A.deeper (envOf name scope L a cd)) (leaving (envOf name scope L a cd) (.ref e)) Q E s' := by
  have K' := K.push (name := name) (a := a) (cd := cd) F hk
  obtain ⟨he, heL, heg⟩ := N _ (.head _)
  obtain ⟨ht, htL, htg⟩ := N _ (.tail _ (.head _))
  have Nn : ∀ p ∈ news, s'.heap.get? p.1 = some p.2 ∧ p.1 ≠ L ∧ g.get? p.1 = none := fun p hp => N p (.tail _ (.tail _ hp))
  have mem : ∀ b, b ∈ (envOf name scope L a cd :: outer).filterMap (·.frame) ++ [e, ta] → b ∈ (envOf name scope L a cd :: outer).filterMap (·.frame) ∨ b = e ∨ b = ta := fun b hb => by
    rcases List.mem_append.mp hb with h | h
    · exact .inl h
    · exact .inr (by simpa using h)
  have hin : ∀ env ∈ (envOf name scope L a cd :: outer), ∀ b, env.frame = some b → b ∈ (envOf name scope L a cd :: outer).filterMap (·.frame) ++ [e, ta] := fun env he b hb => List.mem_append_left _ (List.mem_filterMap.mpr ⟨env, he, hb⟩)
  have st : base.StaysIn (hideAll s'.heap ((envOf name scope L a cd :: outer).filterMap (·.frame) ++ [e, ta])) := fun b o q => hideAll_get _ (K'.stays b o q) fun hm => by
    rcases mem b hm with h | rfl | rfl
    · rw [(K'.frames.mem h).1] at q; cases q
    · have := K.stays _ _ q; rw [heg] at this; cases this
    · have := K.stays _ _ q; rw [htg] at this; cases this
  have sg : ∀ b o, g.get? b = some o → b ∉ outer.filterMap (·.frame) → (hideAll s'.heap ((envOf name scope L a cd :: outer).filterMap (·.frame) ++ [e, ta])).get? b = some o := fun b o q nm => hideAll_get _ (F.keep b o q) fun hm => by
    rcases mem b hm with h | rfl | rfl
    · rcases kts_mem h with z | z
      · rw [z, kts_self F] at q; cases q
      · exact nm z
    · rw [heg] at q; cases q
    · rw [htg] at q; cases q
  have hl : ∀ q ∈ news, (hideAll s'.heap ((envOf name scope L a cd :: outer).filterMap (·.frame) ++ [e, ta])).get? q.1 = some q.2 ∧ g.get? q.1 = none ∧ base.get? q.1 = none := fun q hq => by
    refine ⟨hideAll_get _ (Nn q hq).1 fun hm => ?_, (Nn q hq).2.2, fresh_of_stays K.stays (Nn q hq).2.2⟩
    rcases mem _ hm with h | h | h
    · rcases kts_mem h with z | z
      · exact (Nn q hq).2.1 z
      · obtain ⟨o, ho, _⟩ := (K.frames.mem z).2
        rw [(Nn q hq).2.2] at ho; cases ho
    · exact (hnew q hq).1 h
    · exact (hnew q hq).2 h
  have hen : (hideAll s'.heap ((envOf name scope L a cd :: outer).filterMap (·.frame) ++ [e, ta])).get? e = none := hideAll_none _ (List.mem_append_right _ (.head _))
  have htn : (hideAll s'.heap ((envOf name scope L a cd :: outer).filterMap (·.frame) ++ [e, ta])).get? ta = none := hideAll_none _ (List.mem_append_right _ (.tail _ (.head _)))
  have hda : DictAt s' e (.ref 141) (some de) := ⟨oe, by
    have := (Heap.get?_some_iff.mp he)
    exact this.1, hde, hc⟩
  have key := Kd.any (kd_leaving (envOf name scope L a cd) (.ref e)) hda (wpAny_leaving_firstW (M := M) (E := E) (Q := fun _ s'' => ∃ h', s'' = { s' with heap := h' } ∧ Heap.LeftW (hideAll s'.heap ((envOf name scope L a cd :: outer).filterMap (·.frame) ++ [e, ta])) (envOf name scope L a cd :: outer) e oe.cls (.ref ta) s'.heap h')
    K'.stack (funFrames_hide K'.frames hin) rfl he (fun b o q => of_hideAll _ q) hen hd rfl rfl fun h' hL => ⟨h', rfl, hL⟩)
  refine wpAny_mono key (fun _ s'' hs => ?_) fun _ _ x => x.1
  obtain ⟨⟨h', rfl, k1, ⟨_, _, k2⟩, k3, k4⟩, hda'⟩ := hs
  rw [hc] at k3
  exact hQ h' ⟨⟨_, st, sg, hl, ⟨k1, hen, k2, k3⟩, htn⟩, Heap.TupAt.of_slots ⟨_, _, ht, rfl, rfl⟩ k4⟩ ((Heap.UpToSlots.of_keeps F.keep).trans k4) hda'
end
theorem bad_mem {e de ta : Addr} {oe od : Obj} {vs : List Value} {h₀ h : Heap} {L : Addr} {news : List (Addr × Obj)} (N : News h₀ L h ((e, oe) :: (de, od) :: (ta, tupO vs) :: news)) : News h₀ L h ((e, oe) :: (ta, tupO vs) :: (de, od) :: news) := fun p hp => N p (by
  rcases List.mem_cons.mp hp with rfl | hp
  · exact .head _
  rcases List.mem_cons.mp hp with rfl | hp
  · exact .tail _ (.tail _ (.head _))
  rcases List.mem_cons.mp hp with rfl | hp
  · exact .tail _ (.head _)
  exact .tail _ (.tail _ (.tail _ hp)))
theorem bad_off {e de ta : Addr} {oe od : Obj} {vs : List Value} {h₀ h : Heap} {L : Addr} {news : List (Addr × Obj)} (N : News h₀ L h ((e, oe) :: (de, od) :: (ta, tupO vs) :: news)) (hd : oe.data = .fields #[.ref ta, .none, .none, .none, .bool false, .none])
    {P : Array DictEntry → Nat → Prop} (ho : ∃ es ep, od.data = .dict es ep ∧ P es ep) (hf : ∀ p ∈ news, p.1 ≠ e ∧ p.1 ≠ ta) : ∀ p ∈ (de, od) :: news, p.1 ≠ e ∧ p.1 ≠ ta := fun p hp => by
  rcases List.mem_cons.mp hp with rfl | hp
  · obtain ⟨es, ep, hes, _⟩ := ho
    have n1 := (N _ (.head _)).1
    have n2 := (N _ (.tail _ (.head _))).1
    have n3 := (N _ (.tail _ (.tail _ (.head _)))).1
    refine ⟨fun z => ?_, fun z => ?_⟩
    · dsimp only at n1 n2 z
      rw [z] at n2
      have q : od = oe := Option.some.inj (n2.symm.trans n1)
      rw [q, hd] at hes; cases hes
    · dsimp only at n3 n2 z
      rw [z] at n2
      have q : od = tupO vs := Option.some.inj (n2.symm.trans n3)
      rw [q] at hes; cases hes
  · exact hf p hp
end Mine
namespace Mine
theorem fill7 : PySem.Challenge.rw_ew5020_01 = PySem.Challenge.rw_ew5020_01 ∧ hd.heap_39 = hd.heap_39 := by
  k_fill
  exact ⟨rfl, rfl⟩
theorem skip_claim {prog : Program} {w : World} {loose : List Str} {mean : ExcName → Option Value} {mg mb : Str → Option Value} {rest : List (Addr × Obj)}
    (dp un : Nat) (gd : Option (List Code)) (cn : Str) (cs : Scope) (a : Addr) (ccd : Value) (cl : List (Str × Addr)) (outer : List Env) (A₀ : Around) (base h₀ : Heap) (L : Addr) (m : Str → Option Value) (s : Shared) (Q E : Value → Shared → Prop)
    (t : Str) (tk : Tok) (r rd : Addr) (o : Obj) (ln : Int) (ti : Tok) (j d : Int)
    (B : Below A₀ base outer h₀) (F : Fr h₀ L s.heap m) (X : (hd.heap_39 w.params).In h₀) (N : News h₀ L s.heap ((r, instObj 120 rd) :: (rd, o) :: rest)) (T : Top hd.view_39 loose mean mg mb h₀) (hk : cs.kind = .function)
    (hd1 : dp + 1 < recursionLimit) (hun : un + 8 < cLine)
    (ok : Ok t) (st : Start t j d) (hR : IsRd w.params o ln) (hne : @Ne Nat r rd) (hrest : ∀ p ∈ rest, p.1 ≠ rd)
    (hret : ∀ k o' h' tk', IsRd w.params o' (ln + d) → Fr h₀ L h' m → News h₀ L h' ((r, instObj 120 rd) :: (rd, o') :: rest) → Q (.int j k) { s with heap := h', toks := tk' }) :
    wpAny (model prog w) (ktrTop dp un gd cn cs L a ccd cl outer) (call (.ref 75) [.ref r, .str t tk, .int 0 ti]) Q E s := by
  cases st with
  | plain h => exact skip_gen dp un gd cn cs a ccd cl outer A₀ base h₀ L m s Q E t tk r ti 0 B F X N T hk hd1 hun ok (.inl ⟨h, rfl⟩) fun k h' tk' F' N' => hret k o h' tk' (by rw [Int.add_zero]; exact hR) F' N'
  | blank h h' => exact skip_gen dp un gd cn cs a ccd cl outer A₀ base h₀ L m s Q E t tk r ti 1 B F X N T hk hd1 hun ok (.inr ⟨h, h', rfl⟩) fun k h' tk' F' N' => hret k o h' tk' (by rw [Int.add_zero]; exact hR) F' N'
  | nl h =>
    subst h
    exact skip_nl dp un gd cn cs a ccd cl outer A₀ base h₀ L m s Q E tk r rd o ln ti B F X N T hk hd1 hun hR hne hrest hret
  | cr h =>
    subst h
    exact skip_cr dp un gd cn cs a ccd cl outer A₀ base h₀ L m s Q E tk r ti B F X N T hk hd1 hun fun k h' tk' F' N' => hret k o h' tk' (by rw [Int.add_zero]; exact hR) F' N'
  | hs h =>
    subst h
    exact skip_hs dp un gd cn cs a ccd cl outer A₀ base h₀ L m s Q E tk r ti B F X N T hk hd1 hun fun k h' tk' F' N' => hret k o h' tk' (by rw [Int.add_zero]; exact hR) F' N'

/-- what qname hands back and leaves in the list, by the outcome -/
def QBack (P : Params) (h₀ : Heap) (L : Addr) (m : Str → Option Value) (s : Shared) (r rd f : Addr) (ln : Int) (rest : List (Addr × Obj)) (Q : Value → Shared → Prop) : Out → Prop
  | .none => ∀ k o' h' tk', IsRd P o' ln → Fr h₀ L h' m → News h₀ L h' ((r, instObj 120 rd) :: (rd, o') :: (f, W.listOf #[] 0) :: rest) → Q (.int (-1) k) { s with heap := h', toks := tk' }
  | .told pfx loc stop => ∀ k o' h' tk' tu k1 k2, IsRd P o' ln → Fr h₀ L h' m → News h₀ L h' ((tu, { cls := .type "tuple", data := .seq #[.str pfx k1, .str loc k2] }) :: (r, instObj 120 rd) :: (rd, o') :: (f, W.listOf #[.ref tu] 1) :: rest) → Q (.int stop k) { s with heap := h', toks := tk' }
  | .refused _ _ => True
section
local macro_rules | `(tactic| k_all) => `(tactic| assumption)
local macro_rules | `(tactic| ktr_rel) => `(tactic| ((try dsimp only [TurnPost]); refine' At.of ⟨_, _, _, _⟩ ?aF ?aN ?an ?ak ?ar ?ad; (case aF => assumption); (case aN => assumption); (case an => exact fun _ h => h); (case ak => kst_all); (case ar => (intro z h2 h3; (try simp only [List.forall_mem_cons, List.not_mem_nil, false_implies, implies_true, and_true, ne_eq] at h2); first | rfl | (simp [kstB, h2]; done) | ((simp only [List.contains_cons, List.contains_nil, Bool.or_false, Bool.or_eq_false_iff, beq_eq_false_iff_ne, ne_eq] at h3); (simp [kstB, h2, h3]; done)))); (try dsimp only)))
local macro_rules | `(tactic| walk_at "call ref") => `(tactic| ((with_reducible show wpAny _ _ (call (Value.ref 75) _) _ _ _); k_dflt (refine' skip_claim _ _ _ _ _ _ _ _ _ _ _ _ _ _ _ _ _ _ _ _ _ _ _ _ _ _ ?k1 ?k2 ?k3 ?k4 ?k5 ?kK ?kd ?ku ?k6 ?k7 ?k8 ?k9 ?kr ?_; (case k1 => k_asm); (case k2 => k_asm); (case k3 => k_asm); (case k4 => k_asm); (case k5 => k_asm); (case kK => first | exact rfl | assumption); (case kd => ktr_room); (case ku => ktr_units); (case k6 => assumption); (case k7 => assumption); (case k8 => exact IsRd.mk); (case k9 => assumption); (case kr => refine List.forall_mem_cons.mpr ⟨?_, ?_⟩ <;> first | assumption | exact Ne.symm (by assumption)); intro k' o' h' tk' R' F' N'; (try dsimp only))))
local macro_rules | `(tactic| tb_rel) => `(tactic| ((try dsimp only [TurnPost]); refine' At.of (_, _) ?aF ?aN ?an ?ak ?ar ?ad; (case aF => assumption); (case aN => assumption); (case an => exact fun _ h => h); (case ak => kst_all); (case ar => (intro z h2 h3; (try simp only [List.forall_mem_cons, List.not_mem_nil, false_implies, implies_true, and_true, ne_eq] at h2); first | rfl | (simp [kstB, h2]; done) | ((simp only [List.contains_cons, List.contains_nil, Bool.or_false, Bool.or_eq_false_iff, beq_eq_false_iff_ne, ne_eq] at h3); (simp [kstB, h2, h3]; done)))); (try dsimp only)))
local macro_rules | `(tactic| walk_at "exec Raise some none") => `(tactic| (k_dflt (refine' Raise_own ?hh ?_; (case hh => exact rfl))))
local macro_rules | `(tactic| walk_at "call ref") => `(tactic| ((with_reducible show wpAny _ _ (call (Value.ref 141) _) _ _ _); k_dflt (refine' bad_claim _ _ _ _ _ _ _ _ _ _ _ _ _ _ _ _ _ _ _ _ _ _ _ _ _ _ _ ?k1 ?k2 ?k3 ?k4 ?k5 ?kK ?kd ?ku ?k6 ?k7 ?k8 ?_; (case k1 => k_asm); (case k2 => k_asm); (case k3 => k_asm); (case k4 => k_asm); (case k5 => k_asm); (case kK => first | exact rfl | assumption); (case kd => ktr_room); (case ku => ktr_units); (case k6 => assumption); (case k7 => assumption); (case k8 => assumption); intro e de ta oe od b kb h' tk' c1 c2 c3 c4 c5 F' N'; (try dsimp only); (replace c5 := bad_off N' c3 c4 c5); (replace N' := bad_mem N'); refine RaiseC.of (badCls_K (Frag.In.keeps (by k_asm) F'.keep)) (N' _ (.head _)).1 c1 c3 ?_)))
local macro_rules | `(tactic| walk_at "leaving ref") => `(tactic| (refine' leave_bad ?k1 ?k2 ?k3 ?c1 ?c2 ?c3 ?c4 ?_ ?kK; (case k3 => assumption); (case k1 => assumption); (case k2 => assumption); (case c1 => assumption); (case c2 => assumption); (case c3 => assumption); (case c4 => assumption); (case kK => exact rfl); k_whole; intro h' R' U' D'; (try dsimp only)))
local macro_rules | `(tactic| kts_caught) => `(tactic| ((try dsimp only [TurnPost]); refine' At.of ⟨_, _, _, _, _, _, _⟩ ?aF ?aN ?an ?ak ?ar ?ad; (case aF => assumption); (case aN => assumption); (case an => exact fun _ h => h); (case ak => kst_all); (case ar => (intro z h2 h3; (try simp only [List.forall_mem_cons, List.not_mem_nil, false_implies, implies_true, and_true, ne_eq] at h2); first | rfl | (simp [kstB, h2]; done) | ((simp only [List.contains_cons, List.contains_nil, Bool.or_false, Bool.or_eq_false_iff, beq_eq_false_iff_ne, ne_eq] at h3); (simp [kstB, h2, h3]; done)))); (try dsimp only)))
theorem qname_claim {prog : Program} {w : World} {loose : List Str} {mean : ExcName → Option Value} {mg mb : Str → Option Value} {rest : List (Addr × Obj)}
    (dp un : Nat) (gd : Option (List Code)) (cn : Str) (cs : Scope) (a : Addr) (ccd : Value) (cl : List (Str × Addr)) (outer : List Env) (A₀ : Around) (base h₀ : Heap) (L : Addr) (m : Str → Option Value) (s : Shared) (Q E : Value → Shared → Prop)
    (t : Str) (tk : Tok) (r rd f : Addr) (o : Obj) (ln : Int) (ti : Tok) (j d : Int)
    (B : Below A₀ base outer h₀) (F : Fr h₀ L s.heap m) (X : (hd.heap_39 w.params).In h₀) (N : News h₀ L s.heap ((r, instObj 120 rd) :: (rd, o) :: (f, W.listOf #[] 0) :: rest)) (T : Top hd.view_39 loose mean mg mb h₀) (hk : cs.kind = .function)
    (hd1 : dp + 10 < recursionLimit) (hun : un + 100 < cLine)
    (ok : Ok t) (esc : NoEsc t) (st : Start t j d) (hR : IsRd w.params o ln) (hne : @Ne Nat r rd) (hnf : @Ne Nat r f) (hdf : @Ne Nat rd f) (hrest : ∀ p ∈ rest, p.1 ≠ rd) (hrest2 : ∀ p ∈ rest, p.1 ≠ f)
    (hcl : Clean t) (hret : QBack w.params h₀ L m s r rd f (ln + d) rest Q (lawRead t))
    (hexc : ∀ place why, lawRead t = .refused place why → ∀ G e ta de vs od o' h' tk' b kb u tu tl ti' tw, IsRd w.params o' (ln + d) → Fr h₀ L G m → RaisedS base G (envX cn cs L a ccd cl :: outer) e (.ref 141) ta vs ((de, od) :: (r, instObj 120 rd) :: (rd, o') :: (f, W.listOf #[] 0) :: rest) h' → G.UpToSlots h' → DictAt { s with heap := h', toks := tk' } e (.ref 141) (some de) →
      (∃ es ep, od.data = .dict es ep ∧ StrKeys es ∧ UniqKeys es ∧ ∀ name, nsFind es name = exMap b kb u tu (ln + d) tl place ti' why tw name) → E (.ref e) { s with heap := h', toks := tk' }) :
    wpAny (model prog w) (ktrTop dp un gd cn cs L a ccd cl outer) (call (.ref 82) [.ref r, .str t tk, .int 0 ti, .ref f]) Q E s := by
  have hlen := ok.len
  have hmax := ok.most
  have hj := start_le st
  cases hR
  w_top off
  k_with_none
  refine wpAny_call ?_
  k_dflt cell_enter
  k_with "exec If Compare cons cons" => refine Held.on (n := 2) ?_
  k_steps
  · rw [start_none st (by assumption)] at hret
    rename IsRd _ _ _ => hR2
    exact hret _ _ _ _ hR2 (by assumption) (by assumption)
  · have hj0 : 0 ≤ j := by omega
    have hh := start_head st hj0
    have q0 := f_out (t := t) lit_num (by assumption) (by omega) (by omega)
    k_with_none
    refine Held.off ?_
    rename Fr _ _ _ _ => lF
    rename News _ _ _ _ => lN
    refine' cutG (σ := Int × Tok × Str × Tok) (fun c => [(Str.ofString "i", .int c.1 c.2.1), (Str.ofString "ln", .str c.2.2.1 c.2.2.2)]) [Str.ofString "j"] (fun c => c.1 = endOf t j (firstI (isStopC t) t.length j) ∧ j ≤ firstI (isStopC t) t.length j ∧ firstI (isStopC t) t.length j + 2 ≤ t.length ∧ c.2.2.1 = Txt.slice t (some j) (some c.1)) lF lN ?first ?rest
    case first =>
      k_with "exec While" => refine Held.on (n := 3) ?_
      k_steps
      · refine Held.off ?_
        have q1 := f_out (t := t) lit_stops2 (by assumption) (by omega) (by omega)
        have q2 : isStopC t j = false := by unfold isStopC; simpa using q1
        have q3 : j + 3 ≤ t.length := by
          have q4 : j + 2 ≠ t.length := fun x => by
            have y : cd t j = 32 := by rw [show j = (t.length : Int) - 2 by omega]; exact ok.last2
            rw [isStopC_blank y] at q2; cases q2
          have q5 : j + 1 ≠ t.length := fun x => by
            have y : cd t j = 32 := by rw [show j = (t.length : Int) - 1 by omega]; exact ok.last
            rw [isStopC_blank y] at q2; cases q2
          omega
        rename Fr _ _ _ _ => lG
        rename News _ _ _ _ => lM
        k_with_none
        refine' loopG (σ := Int × Tok) (fun c => [(Str.ofString "i", .int c.1 c.2)]) [] (fun c => j + 1 ≤ c.1 ∧ c.1 + 2 ≤ t.length ∧ ∀ x, j ≤ x → x < c.1 → isStopC t x = false) (fun c => j + 1 ≤ c.1 ∧ c.1 + 2 ≤ t.length ∧ firstI (isStopC t) t.length j = c.1) (fun c => (t.length - c.1).toNat) (j + 1, _) lG lM ?kk ?kp ?turn ?rest2 ?pass
        case kk => kst_all
        case kp => exact ⟨by omega, by omega, fun x y z => by rw [show x = j by omega]; exact q2⟩
        case pass => passes_own
        case turn =>
          rintro ⟨e, te⟩ u h tk' ⟨p1, p2, p3⟩ F1 N1
          clear lG lM
          dsimp only at *
          k_steps
          · tb_rel
            have q6 := f_out (t := t) (i := e) lit_stops2 (by assumption) (by omega) (by omega)
            have q7 : isStopC t e = false := by unfold isStopC; simpa using q6
            have q8 : e + 2 ≠ t.length := fun x => by
              have y : cd t e = 32 := by rw [show e = (t.length : Int) - 2 by omega]; exact ok.last2
              rw [isStopC_blank y] at q7; cases q7
            refine ⟨⟨by omega, by omega, fun x y z => ?_⟩, by omega⟩
            by_cases hx : x = e
            · rw [hx]; exact q7
            · exact p3 x y (by omega)
          · tb_rel
            have q6 := f_in (t := t) (i := e) lit_stops2 (by assumption) (by omega) (by omega)
            exact ⟨p1, p2, firstI_is _ _ _ (by omega) (by omega) p3 (by unfold isStopC; simpa using q6)⟩
        case rest2 =>
          rintro ⟨e, te⟩ u h tk' ⟨p1, p2, p3⟩ F1 N1
          clear lG lM
          dsimp only at *
          k_steps
          · have g1 := f_eq (t := t) (i := e - 1) s_dot (by assumption) (by omega) (by omega)
            have g2 : e - 1 = j := by assumption
            rw [g2] at g1
            exact absurd (by rw [g1]; decide) q0
          · ktr_rel
            have g1 := f_eq (t := t) (i := e - 1) s_dot (by assumption) (by omega) (by omega)
            refine ⟨?_, by omega, by omega, rfl⟩
            unfold endOf
            rw [p3, if_pos ⟨by omega, g1⟩]
          · ktr_rel
            have g1 := f_ne (t := t) (i := e - 1) s_dot (by assumption) (by omega) (by omega)
            refine ⟨?_, by omega, by omega, rfl⟩
            unfold endOf
            rw [p3, if_neg fun x => g1 x.2]
      · ktr_rel
        have q1 := f_in (t := t) lit_stops2 (by assumption) (by omega) (by omega)
        have q2 : firstI (isStopC t) t.length j = j := firstI_is _ _ _ (by omega) (by omega) (fun x y z => by omega) (by unfold isStopC; simpa using q1)
        have q3 : endOf t j (firstI (isStopC t) t.length j) = j := by
          unfold endOf; rw [q2, if_neg (by omega)]
        exact ⟨q3.symm, by omega, by omega, (slice_nil hj0 (by omega)).symm⟩
    case rest =>
      rintro ⟨e', te', ln', tl'⟩ u h tk' ⟨p1, p2, p3, p4⟩ F1 N1
      clear lF lN
      dsimp only at *
      have p5 := end_ge p1 p2
      subst p4
      k_with_none
      k_with "exec If Compare cons cons" => refine Held.on (n := 2) ?_
      rename IsRd _ _ _ => hR2
      cases hR2
      k_steps
      · have p6 := f_eq (t := t) s_colon (by assumption) (by omega) (by omega)
        have p7 := read_colon hh q0 rfl p1 p6
        k_with_none
        refine Held.off ?_
        rename Fr _ _ _ _ => lF
        rename News _ _ _ _ => lN
        refine' cutG (σ := Str × Tok) (fun c => [(Str.ofString "allowedChars", .str c.1 c.2)]) [] (fun c => c.1.cps.toList = stopsOf (Txt.slice t (some j) (some e'))) lF lN ?first3 ?rest3
        case first3 =>
          k_steps
          · tb_rel
            rw [slice_under (by assumption)]
            exact lit_stops2
          · tb_rel
            rw [slice_plain (by assumption)]
            exact lit_stops
        case rest3 =>
          rintro ⟨S, tS⟩ u h tk' hS F1 N1
          clear lF lN
          dsimp only at *
          k_with "exec While" => refine Held.on (n := 3) ?_
          k_steps
          k_with_none
          refine Held.off ?_
          rename Fr _ _ _ _ => lF
          rename News _ _ _ _ => lN
          have far0 : e' + 2 ≠ t.length := fun x => by
            have y : cd t e' = 32 := by rw [show e' = (t.length : Int) - 2 by omega]; exact ok.last2
            rw [p6] at y; cases y
          generalize hpfx : Txt.slice t (some j) (some e') = pfx at *
          refine' loopG (σ := Int × Tok × Bool × Int × Tok × Str × Tok) (fun c => [(Str.ofString "i", .int c.1 c.2.1), (Str.ofString "lastslash", .bool c.2.2.1), (Str.ofString "start", .int c.2.2.2.1 c.2.2.2.2.1), (Str.ofString "ln", .str c.2.2.2.2.2.1 c.2.2.2.2.2.2)]) [Str.ofString "c"]
            (fun c => e' + 1 ≤ c.1 ∧ c.1 + 2 ≤ t.length ∧ ((c.2.2.1 = false ∧ c.2.2.2.1 = e' + 1 ∧ c.2.2.2.2.2.1 = Str.ofString "" ∧ ∀ x, e' + 1 ≤ x → x < c.1 → halts t pfx x = false) ∨ (c.2.2.1 = true ∧ e' + 2 ≤ c.1 ∧ cd t (c.1 - 1) = 92 ∧ firstI (halts t pfx) t.length (e' + 1) = c.1 - 1)))
            (fun c => c.2.2.1 = false ∧ c.2.2.2.1 = e' + 1 ∧ c.2.2.2.2.2.1 = Str.ofString "" ∧ e' + 1 ≤ c.1 ∧ c.1 + 2 ≤ t.length ∧ cd t c.1 ≠ 92 ∧ badHex t c.1 = false ∧ firstI (halts t pfx) t.length (e' + 1) = c.1)
            (fun c => (t.length - c.1).toNat) (e' + 1, _, false, e' + 1, _, Str.ofString "", _) lF lN ?kk4 ?kp4 ?turn4 ?rest4 ?pass4
          case kk4 => kst_all
          case kp4 => exact ⟨by omega, by omega, .inl ⟨rfl, rfl, rfl, fun x y z => by omega⟩⟩
          case pass4 => passes_own
          case turn4 =>
            rintro ⟨i, ti, ls, st', tst, l2, tl2⟩ u h tk' ⟨r1, r2, r3⟩ F1 N1
            clear lF lN
            dsimp only at *
            rcases r3 with ⟨rfl, rfl, rfl, r4⟩ | ⟨rfl, r4, r5, r6⟩
            · have far : cd t i ≠ 32 → i + 2 < t.length := fun x => by
                have q4 : i + 2 ≠ t.length := fun y => x (by rw [show i = (t.length : Int) - 2 by omega]; exact ok.last2)
                omega
              have go : halts t pfx i = true → lawRead t = localOf t pfx e' i := fun x => by
                rw [p7, firstI_is _ _ _ r1 (by omega) r4 x]
              k_steps
              · kts_caught
                have g1 := f_eq (t := t) s_bsl (by assumption) (by omega) (by omega)
                have g3 := far (by rw [g1]; decide)
                have g4 : halts t pfx i = true := by rw [halts_is, g1]; simp [stops_bsl]
                refine ⟨⟨by omega, by omega, .inr ⟨rfl, by omega, ?_, ?_⟩⟩, by omega⟩
                · rw [show i + 1 - 1 = i by omega]; exact g1
                · rw [show i + 1 - 1 = i by omega]; exact firstI_is _ _ _ r1 (by omega) r4 g4
              · kts_caught
                have g1 := f_eq (t := t) s_bsl (by assumption) (by omega) (by omega)
                have g3 := far (by rw [g1]; decide)
                have g4 : halts t pfx i = true := by rw [halts_is, g1]; simp [stops_bsl]
                refine ⟨⟨by omega, by omega, .inr ⟨rfl, by omega, ?_, ?_⟩⟩, by omega⟩
                · rw [show i + 1 - 1 = i by omega]; exact g1
                · rw [show i + 1 - 1 = i by omega]; exact firstI_is _ _ _ r1 (by omega) r4 g4
              · have g1 := f_eq (t := t) s_pct (by assumption) (by omega) (by omega)
                have g2 := f_out (t := t) (i := i + 1) lit_hex2 (by assumption) (by omega) (by omega)
                have g4 : badHex t i = true := badHex_1 g1 (hex_out g2)
                refine hexc _ _ ?_ _ _ _ _ _ _ _ _ _ _ _ _ _ _ _ _ IsRd.mk (by assumption) (by assumption) (by assumption) (by assumption) (by assumption)
                rw [go (by rw [halts_is, g4]; rfl), local_pct g4, hex_msg (by omega) (by omega) g1]
              · have g1 := f_eq (t := t) s_pct (by assumption) (by omega) (by omega)
                have g3 := far (by rw [g1]; decide)
                have g2 := f_in (t := t) (i := i + 1) lit_hex2 (by assumption) (by omega) (by omega)
                k_steps
                · have g5 := f_out (t := t) (i := i + 2) lit_hex2 (by assumption) (by omega) (by omega)
                  have g4 : badHex t i = true := badHex_2 g1 (hex_out g5)
                  refine hexc _ _ ?_ _ _ _ _ _ _ _ _ _ _ _ _ _ _ _ _ IsRd.mk (by assumption) (by assumption) (by assumption) (by assumption) (by assumption)
                  rw [go (by rw [halts_is, g4]; rfl), local_pct g4, hex_msg (by omega) (by omega) g1]
                · have g5 := f_in (t := t) (i := i + 2) lit_hex2 (by assumption) (by omega) (by omega)
                  have g6 := f_out (t := t) hS (by assumption) (by omega) (by omega)
                  have g7 : halts t pfx i = false := by rw [halts_is, badHex_ok (hex_in g2) (hex_in g5)]; simp [g6]
                  kts_caught
                  refine ⟨⟨by omega, by omega, .inl ⟨rfl, rfl, rfl, fun x y z => ?_⟩⟩, by omega⟩
                  by_cases hx : x = i
                  · rw [hx]; exact g7
                  · exact r4 x y (by omega)
              · have g1 := f_ne (t := t) s_pct (by assumption) (by omega) (by omega)
                have g2 := f_out (t := t) hS (by assumption) (by omega) (by omega)
                have g3 := far fun x => g2 (by rw [x]; exact stops_blank _)
                have g7 : halts t pfx i = false := by rw [halts_is, badHex_ne g1]; simp [g2]
                kts_caught
                refine ⟨⟨by omega, by omega, .inl ⟨rfl, rfl, rfl, fun x y z => ?_⟩⟩, by omega⟩
                by_cases hx : x = i
                · rw [hx]; exact g7
                · exact r4 x y (by omega)
              · have g0 := f_ne (t := t) s_bsl (by assumption) (by omega) (by omega)
                have g2 := f_in (t := t) hS (by assumption) (by omega) (by omega)
                have g1 : badHex t i = false := badHex_ne fun x => by
                  rw [x] at g2
                  exact absurd g2 (stops_pct _)
                kts_caught
                exact ⟨rfl, rfl, rfl, r1, r2, g0, g1, firstI_is _ _ _ r1 (by omega) r4 (by rw [halts_is]; simp [g2])⟩
            · have go : lawRead t = .refused i (Str.ofString "illegal escape " ++ Txt.item t i) := by
                rw [p7, r6, local_bsl r5, show i - 1 + 1 = i by omega]
              have ne := esc (i - 1) (by omega) (by omega) r5
              rw [show i - 1 + 1 = i by omega] at ne
              k_steps
              all_goals first
                | exact absurd (f_in (t := t) (i := i) lit_esc (by assumption) (by omega) (by omega)) ne
                | (refine hexc _ _ ?_ _ _ _ _ _ _ _ _ _ _ _ _ _ _ _ _ IsRd.mk (by assumption) (by assumption) (by assumption) (by assumption) (by assumption); exact go)
          case rest4 =>
            rintro ⟨i, ti, ls, st', tst, l2, tl2⟩ u h tk' ⟨rfl, rfl, rfl, r1, r2, r3, r4, r5⟩ F1 N1
            clear lF lN
            dsimp only at *
            rw [r5] at p7
            k_steps
            · have g1 := f_eq (t := t) (i := i - 1) s_dot (by assumption) (by omega) (by omega)
              rw [show i - 1 = e' by omega] at g1
              rw [p6] at g1
              cases g1
            all_goals (rename News _ _ _ _ => lN; rename Fr _ _ _ _ => lF)
            · have g1 := f_eq (t := t) (i := i - 1) s_dot (by assumption) (by omega) (by omega)
              rw [p7, local_told r3 r4 (if_pos g1).symm, ← nil_app (Txt.slice t _ _)] at hret
              exact hret _ _ _ _ _ _ _ IsRd.mk lF lN
            · have g1 := f_eq (t := t) (i := i - 1) s_dot (by assumption) (by omega) (by omega)
              rw [p7, local_told r3 r4 (if_pos g1).symm, show Txt.slice t (some (e' + 1)) (some (i - 1)) = Str.ofString "" by rw [show i - 1 = e' + 1 by omega]; exact slice_nil (by omega) (by omega)] at hret
              exact hret _ _ _ _ _ _ _ IsRd.mk lF lN
            · have g1 := f_ne (t := t) (i := i - 1) s_dot (by assumption) (by omega) (by omega)
              rw [p7, local_told r3 r4 (if_neg g1).symm, ← nil_app (Txt.slice t _ _)] at hret
              exact hret _ _ _ _ _ _ _ IsRd.mk lF lN
            · have g1 := f_ne (t := t) (i := i - 1) s_dot (by assumption) (by omega) (by omega)
              rw [p7, local_told r3 r4 (if_neg g1).symm, show Txt.slice t (some (e' + 1)) (some i) = Str.ofString "" by rw [show i = e' + 1 by omega]; exact slice_nil (by omega) (by omega)] at hret
              exact hret _ _ _ _ _ _ _ IsRd.mk lF lN
      · have p6 := f_ne (t := t) s_colon (by assumption) (by omega) (by omega)
        rw [read_nocolon hh rfl p1 p6] at hret
        exact hret _ _ _ _ IsRd.mk (by assumption) (by assumption)
      · have p6 := f_ne (t := t) s_colon (by assumption) (by omega) (by omega)
        rw [read_nocolon hh rfl p1 p6] at hret
        exact hret _ _ _ _ IsRd.mk (by assumption) (by assumption)
  · have hj0 : 0 ≤ j := by omega
    have hh := start_head st hj0
    have q1 := f_in (t := t) lit_num (by assumption) (by omega) (by omega)
    rw [read_num hh q1] at hret
    rename IsRd _ _ _ => hR2
    exact hret _ _ _ _ hR2 (by assumption) (by assumption)
end
end Mine
namespace Mine
section
variable {M : Model} {A : Around} {E : Value → Shared → Prop} {s : Shared} {e L : Addr} {cls a0 c : Value} {d : Option Addr} {env : Env} {outer : List Env} {base : Heap}
theorem looks_kd {Q : Unit → Shared → Prop} (hfr : A.frames = some (env :: outer)) (hf : env.frame = some L) (hfl : Heap.FlyingW base (env :: outer) e cls a0 s.heap) (hd : DictAt s e c d)
    (hQ : ∀ h', Heap.HeldW base (env :: outer) e cls a0 L h' → s.heap.UpToSlots h' → DictAt { s with heap := h' } e c d → Q () { s with heap := h' }) : wpAny M A (noteFrame (.ref e) env) Q E s := by
  refine wpAny_mono (Kd.any (kd_noteFrame (.ref e) env) hd (wpAny_looks_onW (Q := fun _ s'' => ∃ h', s'' = { s with heap := h' } ∧ Heap.HeldW base (env :: outer) e cls a0 L h' ∧ s.heap.UpToSlots h') hfr hf hfl fun h' k1 k2 => ⟨h', rfl, k1, k2⟩)) (fun _ s'' hs => ?_) fun _ _ x => x.1
  obtain ⟨⟨h', rfl, k1, k2⟩, k3⟩ := hs
  exact hQ h' k1 k2 k3
theorem lands_kd {l : List Env} {Q : Unit → Shared → Prop} (hh : Heap.HeldW base l e cls a0 L s.heap) (hd : DictAt s e c d)
    (hQ : ∀ h', Heap.FlyingW base l e cls a0 h' → s.heap.UpToSlots h' → DictAt { s with heap := h' } e c d → Q () { s with heap := h' }) : wpAny M A (setFlight (.ref e) none) Q E s := by
  refine wpAny_mono (Kd.any (kd_setFlight (.ref e) none) hd (wpAny_landsW (Q := fun _ s'' => ∃ h', s'' = { s with heap := h' } ∧ Heap.FlyingW base l e cls a0 h' ∧ s.heap.UpToSlots h') hh fun h' k1 k2 => ⟨h', rfl, k1, k2⟩)) (fun _ s'' hs => ?_) fun _ _ x => x.1
  obtain ⟨⟨h', rfl, k1, k2⟩, k3⟩ := hs
  exact hQ h' k1 k2 k3
theorem again_kd {l : List Env} {Q : Unit → Shared → Prop} (hh : Heap.FlyingW base l e cls a0 s.heap) (hd : DictAt s e c d)
    (hQ : ∀ h', Heap.FlyingW base l e cls a0 h' → s.heap.UpToSlots h' → DictAt { s with heap := h' } e c d → Q () { s with heap := h' }) : wpAny M A (setFlight (.ref e) none) Q E s := by
  refine wpAny_mono (Kd.any (kd_setFlight (.ref e) none) hd (lands_againW (Q := fun _ s'' => ∃ h', s'' = { s with heap := h' } ∧ Heap.FlyingW base l e cls a0 h' ∧ s.heap.UpToSlots h') hh fun h' k1 k2 => ⟨h', rfl, k1, k2⟩)) (fun _ s'' hs => ?_) fun _ _ x => x.1
  obtain ⟨⟨h', rfl, k1, k2⟩, k3⟩ := hs
  exact hQ h' k1 k2 k3
end
section
variable {prog : Program} {w : World} {A₀ : Around} {E : Value → Shared → Prop} {s' : Shared} {base g g₀ G : Heap} {outer : List Env} {L a e t C de : Addr} {m : Str → Option Value} {name : Str} {scope : Scope} {cd : Value}
  {vs : List Value} {n : Str} {b₀ : Stmt} {suite : List Stmt} {pos np : Pos} {rest : List ExceptHandler} {Q : Flow → Shared → Prop} {news : List (Addr × Obj)} {KF : Frag}
  {p : Program} {loose : List Str} {mean : ExcName → Option Value} {mg mb : Str → Option Value} {x : Str}
theorem caught_own (R : RaisedS base G (envOf name scope L a cd :: outer) e (.ref C) t vs news s'.heap) (hda : DictAt s' e (.ref C) (some de)) (F : Fr g L G m) (K : Below A₀ base outer g) (hsm : G.UpToSlots s'.heap) (XB : KF.In base) (TB : Top p loose mean mg mb base)
    (D : KtsDicts (outer.filterMap (·.frame)) g) (T0 : KtsTurn (outer.filterMap (·.frame)) g₀ g)
    (ex : nsIn KF mainGlobals x = some (some (.ref C))) (q : ktsIn KF C "BaseException" = true)
    (k : ∀ h' g' oe tk, KtsTurn (outer.filterMap (·.frame)) g₀ g' → Fr g' L h' (fun y => if y = n then some (.ref e) else m y) → oe.cls = .ref C → oe.dict = some de → (∀ c, oe.data ≠ .cls c) → News g' L h' ((e, oe) :: news) → Below A₀ base outer g' → KF.In g' → Top p loose mean mg mb g' → KtsDicts (outer.filterMap (·.frame)) g' →
      wpAny (model prog w) ((A₀.deeper (envOf name scope L a cd)).mark (some (.ref e))) (execs (b₀ :: suite) (envOf name scope L a cd))
        (fun f s₄ => wpAny (model prog w) (A₀.deeper (envOf name scope L a cd)) (do bindName (envOf name scope L a cd) n .none; unbindBehindTheSuite (envOf name scope L a cd) n pos) (fun _ s₅ => Q f s₅) E s₄)
        (AsSuiteRaised (model prog w) ((A₀.deeper (envOf name scope L a cd)).mark (some (.ref e))) (envOf name scope L a cd) n pos (notedBy (model prog w) ((A₀.deeper (envOf name scope L a cd)).mark (some (.ref e))) (envOf name scope L a cd) (cameBackBy (model prog w) (A₀.deeper (envOf name scope L a cd)) (envOf name scope L a cd) E)))
        { s' with heap := h', toks := tk })
    (hk : scope.kind = .function := by rfl) (hlo : (envOf name scope L a cd).kindOf n = some .local := by rfl) (hx : (envOf name scope L a cd).kindOf x = some .globalImplicit := by rfl) (hd : (x == ("__debug__" : Str)) = false := by decide) :
    wpAny (model prog w) (A₀.deeper (envOf name scope L a cd)) (noteFrame (.ref e) (envOf name scope L a cd))
      (fun _ s₂ => wpAny (model prog w) (A₀.deeper (envOf name scope L a cd)) (setFlight (.ref e) none) (fun _ s₃ =>
        wpAny (model prog w) (A₀.deeper (envOf name scope L a cd)) (handleBy (.ref e) (envOf name scope L a cd) (.ExceptHandler (some (.Name x np)) (some n) (b₀ :: suite) pos :: rest)) Q E s₃) E s₂) E s' := by
  obtain ⟨⟨B, hB, hBG, hl, hfl, hnew⟩, htup⟩ := R
  have hL : B.get? L = none := by
    obtain ⟨_, ⟨L', _, hf, hn', _⟩, _⟩ := hfl.2.2.1
    obtain rfl : L = L' := Option.some.inj hf
    exact hn'
  refine looks_kd (Around.frames_deeper K.stack) rfl hfl hda fun h₄ hheld₄ hsm₄ hda₄ => ?_
  refine lands_kd hheld₄ hda₄ fun h₅ hheld hsm₅' hda₅ => ?_
  have hsm₅ := hsm₄.trans hsm₅'
  obtain ⟨g₅, T₅, F₅, K₅⟩ := kts_ground K F hBG hheld.1 (hsm.trans hsm₅)
  have X₅ : KF.In g₅ := XB.keeps K₅.stays
  have P₅ : TopRead p loose mg mb g₅ := topRead_of (TB.keeps K₅.stays)
  obtain ⟨ob, hob, hobc⟩ := hheld.there
  obtain ⟨nm, q', N, bs, bm, hdct, sn, sub, ab, col, dd, k0, k1, k2, k3, k5, newId, hC, hbase, hbT⟩ := kts_cls X₅ q
  have hC₅ := F₅.keep _ _ hC
  refine wpAny_handleBy_cons (codeAny_handlers_test (name_K F₅ X₅ P₅ ex ?_ hk hx hd)) (by intro q; cases q)
  refine wpAny_excMatches_sub_self hC₅ hob hobc hbase (codeAny_handlers_suite_as ?_)
  refine again_kd hheld hda₅ fun h₆ hfl₆ hsm₆ hda₆ => ?_
  obtain ⟨g₆, T₆, F₆, K₆⟩ := kts_ground K F hBG hfl₆.1 ((hsm.trans hsm₅).trans hsm₆)
  obtain ⟨oe, ws, hoe, hoec, hoed, hoe0⟩ := hfl₆.first
  have hdict : oe.dict = some de := by
    obtain ⟨o, ho, h1, _⟩ := hda₆
    have := (Heap.get?_some_iff.mp hoe).1
    have z : oe = o := Option.some.inj (this.symm.trans ho)
    rw [z]; exact h1
  have ne₆ : g₆.get? e = none := T₆.none_ _ (kts_fresh F hBG hfl₆.2.1 fun o ho m => by
    obtain ⟨_, o', ho', hd⟩ := K.frames.mem m
    rw [ho] at ho'
    cases ho'
    obtain ⟨sl, hs⟩ := ((hsm.trans hsm₅).trans hsm₆) _ _ (F.keep _ _ ho) hd
    rw [hoe] at hs
    cases hs
    exact hd _ hoed)
  have N₆ := News.more F₆ News.nil hoe (fun es n q => by rw [hoed] at q; cases q) ne₆
  have Nl : News g₆ L h₆ news := fun q hq => ⟨hfl₆.1 _ _ (hl q hq).1, (fun z => by have := (hl q hq).1; rw [z, hL] at this; cases this), T₆.none_ _ (kts_none F.keep (hl q hq).2.1)⟩
  have X₆ : KF.In g₆ := XB.keeps K₆.stays
  have P₆ : Top p loose mean mg mb g₆ := TB.keeps K₆.stays
  have D₆ : KtsDicts (outer.filterMap (·.frame)) g₆ := D.turn T₆
  refine stN F₆ (news := (e, oe) :: news) (fun q hq => by
    rcases List.mem_cons.mp hq with rfl | hq
    · exact N₆ _ (.head _)
    · exact Nl q hq) (fun h₇ F₇ N₇ => ?_) hk hlo
  exact k h₇ g₆ oe _ (T0.trans T₆) F₇ hoec hdict (fun c z => by rw [hoed] at z; cases z) N₇ K₆ X₆ P₆ D₆
end
end Mine
namespace Mine
/-- the law's own addition: one line more where the text begins with a line feed -/
def Begins (t : Str) (d : Int) : Prop := d = if cd t 0 = 10 then 1 else 0
/-- all that a step asks of its text -/
def Good (t : Str) : Prop := ∃ j d, Ok t ∧ NoEsc t ∧ Start t j d ∧ Begins t d ∧ Clean t
def cdL (l : List Nat) (i : Nat) : Nat := l.getD i 0
theorem cd_list {l : List Nat} {i : Int} : cd ⟨l.toArray⟩ i = cdL l i.toNat := by
  unfold cd cdL
  rw [Array.getD_eq_getD_getElem?, List.getD_eq_getElem?_getD]
  simp
def goodL (l : List Nat) : Bool :=
  (decide (3 ≤ l.length)) && decide (l.length ≤ 100) && decide (cdL l (l.length - 1) = 32) && decide (cdL l (l.length - 2) = 32)
    && (List.range l.length).all (fun i => !decide (cdL l i = 92) || !decide (cdL l (i + 1) ∈ escL))
    && l.all (fun c => !Str.isSurrogate c)
    && ((!decide (cdL l 0 ∈ [32, 9, 35, 13, 10])) || (decide (cdL l 0 = 32 ∨ cdL l 0 = 9) && !decide (cdL l 1 ∈ [32, 9, 35, 13, 10])) || decide (l = tNl.cps.toList) || decide (l = tCr.cps.toList) || decide (l = tHs.cps.toList))
theorem plain_of {l : List Nat} {i : Int} (h : cdL l i.toNat ∉ [32, 9, 35, 13, 10]) : Plain ⟨l.toArray⟩ i := by
  simp only [List.mem_cons, List.not_mem_nil, or_false, not_or] at h
  unfold Plain
  rw [cd_list]
  exact ⟨h.1, h.2.1, h.2.2.1, h.2.2.2.1, h.2.2.2.2⟩
theorem str_list {l : List Nat} {t : Str} (h : l = t.cps.toList) : (⟨l.toArray⟩ : Str) = t := by
  subst h
  obtain ⟨a⟩ := t
  simp
theorem good_of {l : List Nat} (h : goodL l = true) : Good ⟨l.toArray⟩ := by
  unfold goodL at h
  simp only [Bool.and_eq_true, decide_eq_true_eq] at h
  obtain ⟨⟨⟨⟨⟨⟨h1, h2⟩, h3⟩, h4⟩, h5⟩, h6⟩, h7⟩ := h
  have hl : ((⟨l.toArray⟩ : Str).length) = l.length := by show l.toArray.size = _; simp
  have ok : Ok ⟨l.toArray⟩ := by
    refine ⟨by rw [hl]; exact h1, by rw [hl]; exact h2, ?_, ?_⟩
    · rw [cd_list, hl, show ((l.length : Int) - 1).toNat = l.length - 1 by omega]; exact h3
    · rw [cd_list, hl, show ((l.length : Int) - 2).toNat = l.length - 2 by omega]; exact h4
  have esc : NoEsc ⟨l.toArray⟩ := by
    intro i i0 i1 he
    rw [hl] at i1
    rw [cd_list] at he ⊢
    have := List.all_eq_true.mp h5 i.toNat (List.mem_range.mpr (by omega))
    rw [he] at this
    rw [show (i + 1).toNat = i.toNat + 1 by omega]
    simpa using this
  have cl : Clean ⟨l.toArray⟩ := by
    intro c hc
    have hc : c ∈ l := by simpa using hc
    have := List.all_eq_true.mp h6 c hc
    simpa using this
  simp only [Bool.or_eq_true, Bool.and_eq_true, Bool.not_eq_true', decide_eq_true_eq, decide_eq_false_iff_not] at h7
  rcases h7 with (((h7 | h7) | h7) | h7) | h7
  · have p : Plain (⟨l.toArray⟩ : Str) 0 := plain_of (i := 0) h7
    refine ⟨0, 0, ok, esc, .plain p, ?_, cl⟩
    unfold Begins
    rw [if_neg p.2.2.2.2]
  · have p : Plain (⟨l.toArray⟩ : Str) 1 := plain_of (i := 1) h7.2
    have q : cd (⟨l.toArray⟩ : Str) 0 = 32 ∨ cd (⟨l.toArray⟩ : Str) 0 = 9 := by rw [cd_list]; exact h7.1
    refine ⟨1, 0, ok, esc, .blank q p, ?_, cl⟩
    unfold Begins
    rw [if_neg (by omega)]
  · have e := str_list h7
    refine ⟨1, 1, ok, esc, .nl e, ?_, cl⟩
    rw [e]; unfold Begins; decide +kernel
  · have e := str_list h7
    refine ⟨0, 0, ok, esc, .cr e, ?_, cl⟩
    rw [e]; unfold Begins; decide +kernel
  · have e := str_list h7
    refine ⟨-1, 0, ok, esc, .hs e, ?_, cl⟩
    rw [e]; unfold Begins; decide +kernel
/-- the codes of the first turn -/
def codes : List Nat := (List.range 95).map (· + 32) ++ [9, 10, 13, 233, 128512]
def formL (c : Nat) : Nat → List Nat
  | 0 => [c, 97, 98, 58, 99, 100, 32, 32]
  | 1 => [97, c, 98, 58, 99, 100, 32, 32]
  | 2 => [97, 98, 58, c, 99, 100, 32, 32]
  | 3 => [97, 98, 58, 99, c, 100, 32, 32]
  | 4 => [97, 98, 58, 99, 100, c, 32, 32]
  | _ => [95, 58, 99, c, 100, 32, 32]
theorem forms_ok : ∀ f ∈ [0, 1, 2, 3, 4, 5], ∀ c ∈ codes, goodL (formL c f) = true := by decide +kernel
theorem form_good {c f : Nat} (hc : c ∈ codes) (hf : f ∈ [0, 1, 2, 3, 4, 5]) : Good ⟨(formL c f).toArray⟩ := good_of (forms_ok f hf c hc)
/-- the codes of the second turn -/
def drawnL : List Nat := [97, 48, 45, 95, 46, 58, 37, 233]
theorem drawn_plain : ∀ c ∈ drawnL, c ∉ [32, 9, 35, 13, 10] ∧ c ≠ 92 ∧ Str.isSurrogate c = false := by decide +kernel
theorem drawn_good {l : List Nat} (h : ∀ c ∈ l, c ∈ drawnL) (h1 : 1 ≤ l.length) (h2 : l.length ≤ 7) : goodL (l ++ [32, 32]) = true := by
  have hlen : (l ++ [32, 32]).length = l.length + 2 := by simp
  have at' : ∀ i, i < l.length → cdL (l ++ [32, 32]) i ∈ drawnL := fun i hi => by
    unfold cdL
    rw [List.getD_eq_getElem?_getD, List.getElem?_append_left hi, List.getElem?_eq_getElem hi]
    exact h _ (List.getElem_mem hi)
  have past : ∀ i, l.length ≤ i → cdL (l ++ [32, 32]) i = 32 ∨ cdL (l ++ [32, 32]) i = 0 := fun i hi => by
    unfold cdL
    rw [List.getD_eq_getElem?_getD, List.getElem?_append_right hi]
    match i - l.length with
    | 0 => exact .inl rfl
    | 1 => exact .inl rfl
    | k + 2 => exact .inr rfl
  have e1 : cdL (l ++ [32, 32]) (l.length + 1) = 32 := by
    unfold cdL
    rw [List.getD_eq_getElem?_getD, List.getElem?_append_right (by omega), show l.length + 1 - l.length = 1 by omega]; rfl
  have e2 : cdL (l ++ [32, 32]) l.length = 32 := by
    unfold cdL
    rw [List.getD_eq_getElem?_getD, List.getElem?_append_right (by omega), show l.length - l.length = 0 by omega]; rfl
  unfold goodL
  rw [hlen]
  simp only [Bool.and_eq_true, decide_eq_true_eq, Bool.or_eq_true, Bool.not_eq_true', decide_eq_false_iff_not]
  refine ⟨⟨⟨⟨⟨⟨by omega, by omega⟩, e1⟩, e2⟩, ?_⟩, ?_⟩, ?_⟩
  · refine List.all_eq_true.mpr fun i _ => ?_
    have : cdL (l ++ [32, 32]) i ≠ 92 := by
      by_cases hi : i < l.length
      · exact (drawn_plain _ (at' i hi)).2.1
      · rcases past i (by omega) with e | e <;> omega
    simp [this]
  · refine List.all_eq_true.mpr fun c hc => ?_
    rcases List.mem_append.mp hc with hc | hc
    · rw [(drawn_plain c (h c hc)).2.2]; rfl
    · have : c = 32 := by simpa using hc
      rw [this]; decide
  · exact .inl (.inl (.inl (.inl (drawn_plain _ (at' 0 (by omega))).1)))
theorem more_bnd : ∀ n : Nat, 0 ≤ ([9, 10, 13, 233, 128512] : List Int).getD n 0 ∧ ([9, 10, 13, 233, 128512] : List Int).getD n 0 ≤ 1114111
  | 0 => by decide
  | 1 => by decide
  | 2 => by decide
  | 3 => by decide
  | 4 => by decide
  | n + 5 => by
    have : ([9, 10, 13, 233, 128512] : List Int).getD (n + 5) 0 = 0 := rfl
    rw [this]; decide
theorem code_lo {x : Int} (h : x.fmod 100 < 95) : (x.fmod 100 + 32).toNat ∈ codes := by
  have h0 : 0 ≤ x.fmod 100 := Int.fmod_nonneg_of_pos x (by decide)
  generalize x.fmod 100 = p at *
  unfold codes
  refine List.mem_append_left _ (List.mem_map.mpr ⟨p.toNat, List.mem_range.mpr (by omega), by omega⟩)
theorem code_hi {x : Int} (h : ¬ x.fmod 100 < 95) : (([9, 10, 13, 233, 128512] : List Int).getD (x.fmod 100 - 95).toNat 0).toNat ∈ codes := by
  have h0 : x.fmod 100 < 100 := Int.fmod_lt_of_pos x (by decide)
  generalize x.fmod 100 = p at *
  refine List.mem_append_right _ ?_
  have : (p - 95).toNat = 0 ∨ (p - 95).toNat = 1 ∨ (p - 95).toNat = 2 ∨ (p - 95).toNat = 3 ∨ (p - 95).toNat = 4 := by omega
  rcases this with e | e | e | e | e <;> rw [e] <;> decide
theorem mod6 (x : Int) : 0 ≤ x.fmod 6 ∧ x.fmod 6 < 6 := ⟨Int.fmod_nonneg_of_pos x (by decide), Int.fmod_lt_of_pos x (by decide)⟩
theorem t1 : (Str.ofString "ab:cd").cps.toList = [97, 98, 58, 99, 100] := by decide +kernel
theorem t2 : (Str.ofString "a").cps.toList = [97] := by decide +kernel
theorem t3 : (Str.ofString "b:cd").cps.toList = [98, 58, 99, 100] := by decide +kernel
theorem t4 : (Str.ofString "ab:").cps.toList = [97, 98, 58] := by decide +kernel
theorem t5 : (Str.ofString "cd").cps.toList = [99, 100] := by decide +kernel
theorem t6 : (Str.ofString "ab:c").cps.toList = [97, 98, 58, 99] := by decide +kernel
theorem t7 : (Str.ofString "d").cps.toList = [100] := by decide +kernel
theorem t8 : (Str.ofString "_:c").cps.toList = [95, 58, 99] := by decide +kernel
theorem t9 : (Str.ofString "  ").cps.toList = [32, 32] := by decide +kernel
theorem text_form {n : Nat} {t : Str} (f : Nat) (hn : n ∈ codes) (hf : f ∈ [0, 1, 2, 3, 4, 5]) (h : t.cps.toList = formL n f) : Good t := by
  have := form_good hn hf
  rw [← h] at this
  obtain ⟨a⟩ := t
  simpa using this
theorem app_list {a b : Str} {l m : List Nat} (h1 : a.cps.toList = l) (h2 : b.cps.toList = m) : (a ++ b).cps.toList = l ++ m := by
  rw [PySem.Str.cps_append, Array.toList_append, h1, h2]
theorem sign_list {n : Nat} : (⟨#[n]⟩ : Str).cps.toList = [n] := rfl
theorem form0 {n : Nat} (hn : n ∈ codes) : Good ((⟨#[n]⟩ : Str) ++ Str.ofString "ab:cd" ++ Str.ofString "  ") := text_form 0 hn (by decide) (app_list (app_list sign_list t1) t9)
theorem form1 {n : Nat} (hn : n ∈ codes) : Good (Str.ofString "a" ++ ⟨#[n]⟩ ++ Str.ofString "b:cd" ++ Str.ofString "  ") := text_form 1 hn (by decide) (app_list (app_list (app_list t2 sign_list) t3) t9)
theorem form2 {n : Nat} (hn : n ∈ codes) : Good (Str.ofString "ab:" ++ ⟨#[n]⟩ ++ Str.ofString "cd" ++ Str.ofString "  ") := text_form 2 hn (by decide) (app_list (app_list (app_list t4 sign_list) t5) t9)
theorem form3 {n : Nat} (hn : n ∈ codes) : Good (Str.ofString "ab:c" ++ ⟨#[n]⟩ ++ Str.ofString "d" ++ Str.ofString "  ") := text_form 3 hn (by decide) (app_list (app_list (app_list t6 sign_list) t7) t9)
theorem form4 {n : Nat} (hn : n ∈ codes) : Good (Str.ofString "ab:cd" ++ ⟨#[n]⟩ ++ Str.ofString "  ") := text_form 4 hn (by decide) (app_list (app_list t1 sign_list) t9)
theorem form5 {n : Nat} (hn : n ∈ codes) : Good (Str.ofString "_:c" ++ ⟨#[n]⟩ ++ Str.ofString "d" ++ Str.ofString "  ") := text_form 5 hn (by decide) (app_list (app_list (app_list t8 sign_list) t7) t9)
theorem pow8 (n : Nat) : (8 : Int) ^ n ≠ 0 := Int.ne_of_gt (Int.pow_pos (by decide))
theorem mod8 (x : Int) : 0 ≤ x.fmod 8 ∧ x.fmod 8 < 8 := ⟨Int.fmod_nonneg_of_pos x (by decide), Int.fmod_lt_of_pos x (by decide)⟩
end Mine
namespace Mine
def tupOf (p : Str) (k1 : Tok) (l : Str) (k2 : Tok) : Obj := { cls := .type "tuple", data := .seq #[.str p k1, .str l k2] }
section
open PySem.SeqAt
variable {prog : Program} {w : World} {A : Around} {E : Value → Shared → Prop} {s : Shared} {h₀ : Heap} {L : Addr} {news : List (Addr × Obj)} {f g tu tv : Addr} {n k : Nat} {p l : Str} {k1 k2 u1 u2 : Tok}
theorem pair_at (N : News h₀ L s.heap news) (h2 : (tu, tupOf p k1 l k2) ∈ news) (h4 : (tv, tupOf p u1 l u2) ∈ news) (hne : @Ne Nat tu tv) (hu : A.units + 64 < cLine) : EqAt A.in1 s (.ref tu) (.ref tv) true := by
  refine EqAt.of_refs hne ?_
  have a1 : s.heap.IsTuple tu #[.str p k1, .str l k2] := ⟨_, (N _ h2).1, rfl, _, rfl⟩
  have a2 : s.heap.IsTuple tv #[.str p u1, .str l u2] := ⟨_, (N _ h4).1, rfl, _, rfl⟩
  have q := RcAt.tuples (A := A.in1) (e := fun _ => true) a1 a2 (by show A.units + 1 < cLine; omega) (fun j h1 h2 => by
    match j, h1, h2 with
    | 0, _, _ => have x := EqAt.str_str (A := A.in1.in1) (s := s) p k1 p u1; rw [beq_self_eq_true] at x; exact x
    | 1, _, _ => have x := EqAt.str_str (A := A.in1.in1) (s := s) l k2 l u2; rw [beq_self_eq_true] at x; exact x
    | j + 2, h, _ => exact absurd h (by simp))
  exact q
theorem one_at {vs us : Value} (hv : EqAt A.in1 s vs us true) : ∀ j (h1 : j < (#[vs] : Array Value).size) (h2 : j < (#[us] : Array Value).size), EqAt A.in1 s (#[vs] : Array Value)[j] (#[us] : Array Value)[j] true := fun j h1 h2 => by
  have : j = 0 := by simp at h1; omega
  subst this
  exact hv
theorem eq_pair {Q : Value → Shared → Prop} (N : News h₀ L s.heap news) (h1 : (f, W.listOf #[.ref tu] n) ∈ news) (h2 : (tu, tupOf p k1 l k2) ∈ news) (h3 : (g, W.listOf #[.ref tv] k) ∈ news) (h4 : (tv, tupOf p u1 l u2) ∈ news) (hne : @Ne Nat tu tv) (hu : A.units + 64 < cLine) (h : Q (.bool true) s) :
    wpAny (model prog w) A (compareOp .Eq (.ref f) (.ref g)) Q E s := by
  have a1 : s.heap.IsList f #[.ref tu] := ⟨_, (N _ h1).1, rfl, _, rfl⟩
  have a2 : s.heap.IsList g #[.ref tv] := ⟨_, (N _ h3).1, rfl, _, rfl⟩
  exact RcAt.lists (e := fun _ => true) a1 a2 rfl (by omega) (one_at (pair_at N h2 h4 hne hu)) prog w E Q h
theorem ne_pair {Q : Value → Shared → Prop} (N : News h₀ L s.heap news) (h1 : (f, W.listOf #[.ref tu] n) ∈ news) (h2 : (tu, tupOf p k1 l k2) ∈ news) (h3 : (g, W.listOf #[.ref tv] k) ∈ news) (h4 : (tv, tupOf p u1 l u2) ∈ news) (hne : @Ne Nat tu tv) (hu : A.units + 64 < cLine) (h : Q (.bool false) s) :
    wpAny (model prog w) A (compareOp .NotEq (.ref f) (.ref g)) Q E s := by
  have a1 : s.heap.IsList f #[.ref tu] := ⟨_, (N _ h1).1, rfl, _, rfl⟩
  have a2 : s.heap.IsList g #[.ref tv] := ⟨_, (N _ h3).1, rfl, _, rfl⟩
  exact RcNeAt.lists (e := fun _ => true) a1 a2 rfl (by omega) (one_at (pair_at N h2 h4 hne hu)) prog w E Q h
end
end Mine
namespace Mine
theorem fill8 : PySem.Challenge.rw_ew5020_01 = PySem.Challenge.rw_ew5020_01 ∧ hd.heap_39 = hd.heap_39 := by
  k_fill
  exact ⟨rfl, rfl⟩
section
variable {prog : Program} {w : World} {A : Around} {E : Value → Shared → Prop} {s : Shared} {h₀ : Heap} {L e de : Addr} {m mE : Str → Option Value} {news : List (Addr × Obj)} {oe od : Obj} {name : Str} {v : Value}
theorem ex_get {expr : Bool} {Q : Value → Shared → Prop} (F : Fr h₀ L s.heap m) (N : News h₀ L s.heap ((e, oe) :: (de, od) :: news)) (B : BadCls h₀) (hc : oe.cls = .ref 141) (hd : oe.dict = some de) (hnc : ∀ c, oe.data ≠ .cls c)
    (hod : ∃ es ep, od.data = .dict es ep ∧ StrKeys es ∧ UniqKeys es ∧ ∀ n, nsFind es n = mE n) (hn : name ∈ exNames) (hv : mE name = some v) (hh : handedOut v = pure v) (hq : Q v { s with toks := s.toks + 1 }) :
    wpAny (model prog w) A (getAttr (.ref e) name expr) Q E s := by
  obtain ⟨nm, q, bs, sn, sub, ab, col, dd, k0, k1, k2, k3, k5, mN, oI, b1, b2, b3, b4, b5, b6, b7, b8, b9⟩ := B.keeps F.keep
  obtain ⟨hp, gg, dr, tkk, os⟩ := s
  obtain ⟨es, ep, h1, h2, h3, h4⟩ := hod
  obtain ⟨oc, odd, odt, osl⟩ := od
  cases h1
  refine load_attr_ex (mA := mE) mro_syn rfl ga_syn nogetattr_syn b1 b2 b5 b6 (b7 _ hn) (ex_noattr _ hn) (N _ (.head _)).1 hc hnc hd ?_ hv hh hq
  exact ⟨_, es, ep, (N _ (.tail _ (.head _))).1, rfl, h2, h4⟩
end
theorem exMap_i {b : Array UInt8} {kb : Tok} {u : Str} {tu : Tok} {ln : Int} {tl : Tok} {i : Int} {ti : Tok} {why : Str} {tw : Tok} : exMap b kb u tu ln tl i ti why tw (Str.ofString "_i") = some (.int i ti) := by
  unfold exMap
  rw [if_neg (by decide +kernel), if_neg (by decide +kernel), if_neg (by decide +kernel), if_pos rfl]
theorem exMap_why {b : Array UInt8} {kb : Tok} {u : Str} {tu : Tok} {ln : Int} {tl : Tok} {i : Int} {ti : Tok} {why : Str} {tw : Tok} : exMap b kb u tu ln tl i ti why tw (Str.ofString "_why") = some (.str why tw) := by
  unfold exMap
  rw [if_neg (by decide +kernel), if_neg (by decide +kernel), if_pos rfl]
theorem exMap_lines {b : Array UInt8} {kb : Tok} {u : Str} {tu : Tok} {ln : Int} {tl : Tok} {i : Int} {ti : Tok} {why : Str} {tw : Tok} : exMap b kb u tu ln tl i ti why tw (Str.ofString "lines") = some (.int ln tl) := by
  unfold exMap
  rw [if_neg (by decide +kernel), if_pos rfl]
theorem news_rot {h₀ h : Heap} {L f l r rd : Addr} {a b c d : Obj} {rest : List (Addr × Obj)} (N : News h₀ L h ((f, a) :: (l, b) :: (r, c) :: (rd, d) :: rest)) : News h₀ L h ((r, c) :: (rd, d) :: (f, a) :: (l, b) :: rest) := fun p hp => N p (by
  rcases List.mem_cons.mp hp with rfl | hp
  · exact .tail _ (.tail _ (.head _))
  rcases List.mem_cons.mp hp with rfl | hp
  · exact .tail _ (.tail _ (.tail _ (.head _)))
  rcases List.mem_cons.mp hp with rfl | hp
  · exact .head _
  rcases List.mem_cons.mp hp with rfl | hp
  · exact .tail _ (.head _)
  exact .tail _ (.tail _ (.tail _ (.tail _ hp))))
theorem allLt_mem {d : Addr} : ∀ {l : List (Addr × Obj)}, AllLt d l → ∀ p ∈ l, p.1 < d
  | [], _, _, hp => nomatch hp
  | _ :: _, h, p, hp => by
    rcases List.mem_cons.mp hp with rfl | hp
    · exact h.1
    · exact allLt_mem h.2 p hp
theorem fresh_rd {l r rd : Addr} {a b c : Obj} {rest : List (Addr × Obj)} (hl : ∀ p ∈ (r, a) :: (rd, b) :: rest, p.1 < l) (h : ∀ p ∈ rest, p.1 ≠ rd) : ∀ p ∈ (l, c) :: rest, p.1 ≠ rd := fun p hp => by
  rcases List.mem_cons.mp hp with rfl | hp
  · exact Nat.ne_of_gt (hl _ (.tail _ (.head _)))
  · exact h p hp
theorem fresh_f {f l r rd : Addr} {a b c : Obj} {rest : List (Addr × Obj)} (h : AllLt f ((l, c) :: (r, a) :: (rd, b) :: rest)) : ∀ p ∈ (l, c) :: rest, p.1 ≠ f := fun p hp => by
  rcases List.mem_cons.mp hp with rfl | hp
  · exact Nat.ne_of_lt h.1
  · exact Nat.ne_of_lt (allLt_mem h.2.2.2 p hp)
theorem qn_none {prog : Program} {w : World} {loose : List Str} {mean : ExcName → Option Value} {mg mb : Str → Option Value} {rest : List (Addr × Obj)}
    {dp un : Nat} {gd : Option (List Code)} {cn : Str} {cs : Scope} {a : Addr} {ccd : Value} {cl : List (Str × Addr)} {outer : List Env} {A₀ : Around} {base h₀ : Heap} {L : Addr} {m : Str → Option Value} {s : Shared} {Q E : Value → Shared → Prop}
    {t : Str} {tk : Tok} {r rd f l : Addr} {o ol : Obj} {ln : Int} {ti : Tok} {j d : Int}
    (B : Below A₀ base outer h₀) (F : Fr h₀ L s.heap m) (X : (hd.heap_39 w.params).In h₀) (N : News h₀ L s.heap ((f, W.listOf #[] 0) :: (l, ol) :: (r, instObj 120 rd) :: (rd, o) :: rest)) (T : Top hd.view_39 loose mean mg mb h₀) (hk : cs.kind = .function)
    (hd1 : dp + 10 < recursionLimit) (hun : un + 100 < cLine)
    (ok : Ok t) (esc : NoEsc t) (st : Start t j d) (hR : IsRd w.params o ln) (hne : @Ne Nat r rd) (hrest : ∀ p ∈ rest, p.1 ≠ rd) (hcl : Clean t) (hl : ∀ p ∈ (r, instObj 120 rd) :: (rd, o) :: rest, p.1 < l) (l1 : AllLt f ((l, ol) :: (r, instObj 120 rd) :: (rd, o) :: rest))
    (ho : lawRead t = .none)
    (hret : ∀ k o' h' tk', IsRd w.params o' (ln + d) → Fr h₀ L h' m → News h₀ L h' ((r, instObj 120 rd) :: (rd, o') :: (f, W.listOf #[] 0) :: (l, ol) :: rest) → Q (.int (-1) k) { s with heap := h', toks := tk' }) :
    wpAny (model prog w) (ktrTop dp un gd cn cs L a ccd cl outer) (call (.ref 82) [.ref r, .str t tk, .int 0 ti, .ref f]) Q E s :=
  qname_claim _ _ _ _ _ _ _ _ _ _ _ _ _ _ _ _ _ _ _ _ _ _ _ _ _ _ _ B F X (news_rot N) T hk hd1 hun ok esc st hR hne (Nat.ne_of_lt l1.2.1) (Nat.ne_of_lt l1.2.2.1) (fresh_rd hl hrest) (fresh_f l1) hcl (by rw [ho]; exact hret) (fun _ _ h => by rw [ho] at h; cases h)
theorem qn_told {prog : Program} {w : World} {loose : List Str} {mean : ExcName → Option Value} {mg mb : Str → Option Value} {rest : List (Addr × Obj)}
    {dp un : Nat} {gd : Option (List Code)} {cn : Str} {cs : Scope} {a : Addr} {ccd : Value} {cl : List (Str × Addr)} {outer : List Env} {A₀ : Around} {base h₀ : Heap} {L : Addr} {m : Str → Option Value} {s : Shared} {Q E : Value → Shared → Prop}
    {t : Str} {tk : Tok} {r rd f l : Addr} {o ol : Obj} {ln : Int} {ti : Tok} {j d : Int} {pfx loc : Str} {stop : Int}
    (B : Below A₀ base outer h₀) (F : Fr h₀ L s.heap m) (X : (hd.heap_39 w.params).In h₀) (N : News h₀ L s.heap ((f, W.listOf #[] 0) :: (l, ol) :: (r, instObj 120 rd) :: (rd, o) :: rest)) (T : Top hd.view_39 loose mean mg mb h₀) (hk : cs.kind = .function)
    (hd1 : dp + 10 < recursionLimit) (hun : un + 100 < cLine)
    (ok : Ok t) (esc : NoEsc t) (st : Start t j d) (hR : IsRd w.params o ln) (hne : @Ne Nat r rd) (hrest : ∀ p ∈ rest, p.1 ≠ rd) (hcl : Clean t) (hl : ∀ p ∈ (r, instObj 120 rd) :: (rd, o) :: rest, p.1 < l) (l1 : AllLt f ((l, ol) :: (r, instObj 120 rd) :: (rd, o) :: rest))
    (ho : lawRead t = .told pfx loc stop)
    (hret : ∀ k o' h' tk' tu k1 k2, IsRd w.params o' (ln + d) → Fr h₀ L h' m → News h₀ L h' ((tu, { cls := .type "tuple", data := .seq #[.str pfx k1, .str loc k2] }) :: (r, instObj 120 rd) :: (rd, o') :: (f, W.listOf #[.ref tu] 1) :: (l, ol) :: rest) → Q (.int stop k) { s with heap := h', toks := tk' }) :
    wpAny (model prog w) (ktrTop dp un gd cn cs L a ccd cl outer) (call (.ref 82) [.ref r, .str t tk, .int 0 ti, .ref f]) Q E s :=
  qname_claim _ _ _ _ _ _ _ _ _ _ _ _ _ _ _ _ _ _ _ _ _ _ _ _ _ _ _ B F X (news_rot N) T hk hd1 hun ok esc st hR hne (Nat.ne_of_lt l1.2.1) (Nat.ne_of_lt l1.2.2.1) (fresh_rd hl hrest) (fresh_f l1) hcl (by rw [ho]; exact hret) (fun _ _ h => by rw [ho] at h; cases h)
theorem qn_ref {prog : Program} {w : World} {loose : List Str} {mean : ExcName → Option Value} {mg mb : Str → Option Value} {rest : List (Addr × Obj)}
    {dp un : Nat} {gd : Option (List Code)} {cn : Str} {cs : Scope} {a : Addr} {ccd : Value} {cl : List (Str × Addr)} {outer : List Env} {A₀ : Around} {base h₀ : Heap} {L : Addr} {m : Str → Option Value} {s : Shared} {Q E : Value → Shared → Prop}
    {t : Str} {tk : Tok} {r rd f l : Addr} {o ol : Obj} {ln : Int} {ti : Tok} {j d : Int} {place : Int} {why : Str}
    (B : Below A₀ base outer h₀) (F : Fr h₀ L s.heap m) (X : (hd.heap_39 w.params).In h₀) (N : News h₀ L s.heap ((f, W.listOf #[] 0) :: (l, ol) :: (r, instObj 120 rd) :: (rd, o) :: rest)) (T : Top hd.view_39 loose mean mg mb h₀) (hk : cs.kind = .function)
    (hd1 : dp + 10 < recursionLimit) (hun : un + 100 < cLine)
    (ok : Ok t) (esc : NoEsc t) (st : Start t j d) (hR : IsRd w.params o ln) (hne : @Ne Nat r rd) (hrest : ∀ p ∈ rest, p.1 ≠ rd) (hcl : Clean t) (hl : ∀ p ∈ (r, instObj 120 rd) :: (rd, o) :: rest, p.1 < l) (l1 : AllLt f ((l, ol) :: (r, instObj 120 rd) :: (rd, o) :: rest))
    (ho : lawRead t = .refused place why)
    (hexc : ∀ G e ta de vs od o' h' tk' b kb u tu tl ti' tw, IsRd w.params o' (ln + d) → Fr h₀ L G m → RaisedS base G (envX cn cs L a ccd cl :: outer) e (.ref 141) ta vs ((de, od) :: (r, instObj 120 rd) :: (rd, o') :: (f, W.listOf #[] 0) :: (l, ol) :: rest) h' → G.UpToSlots h' → DictAt { s with heap := h', toks := tk' } e (.ref 141) (some de) →
      (∃ es ep, od.data = .dict es ep ∧ StrKeys es ∧ UniqKeys es ∧ ∀ name, nsFind es name = exMap b kb u tu (ln + d) tl place ti' why tw name) → E (.ref e) { s with heap := h', toks := tk' }) :
    wpAny (model prog w) (ktrTop dp un gd cn cs L a ccd cl outer) (call (.ref 82) [.ref r, .str t tk, .int 0 ti, .ref f]) Q E s :=
  qname_claim _ _ _ _ _ _ _ _ _ _ _ _ _ _ _ _ _ _ _ _ _ _ _ _ _ _ _ B F X (news_rot N) T hk hd1 hun ok esc st hR hne (Nat.ne_of_lt l1.2.1) (Nat.ne_of_lt l1.2.2.1) (fresh_rd hl hrest) (fresh_f l1) hcl (by rw [ho]; trivial) (fun _ _ h => by rw [ho] at h; cases h; exact hexc)
section
local macro_rules | `(tactic| walk_at "call ref") => `(tactic| ((with_reducible show wpAny _ _ (call (Value.ref 82) _) _ _ _); k_dflt (first
  | (refine' qn_none ?k1 ?k2 ?k3 ?k4 ?k5 ?kK ?kd ?ku ?ok ?esc ?st ?kR ?kne ?krest ?kcl ?khl ?kl ?ho ?_; (case ho => assumption))
  | (refine' qn_told ?k1 ?k2 ?k3 ?k4 ?k5 ?kK ?kd ?ku ?ok ?esc ?st ?kR ?kne ?krest ?kcl ?khl ?kl ?ho ?_; (case ho => assumption))
  | (refine' qn_ref ?k1 ?k2 ?k3 ?k4 ?k5 ?kK ?kd ?ku ?ok ?esc ?st ?kR ?kne ?krest ?kcl ?khl ?kl ?ho ?_; (case ho => assumption))); (case k4 => k_asm); (case k1 => k_asm); (case k2 => k_asm); (case k3 => k_asm); (case k5 => k_asm); (case kK => first | exact rfl | assumption); (case kd => ktr_room); (case ku => ktr_units); (case ok => assumption); (case esc => assumption); (case st => assumption); (case kR => exact IsRd.mk); (case kne => assumption); (case krest => assumption); (case kcl => assumption); (case khl => assumption); (case kl => assumption); intros; (rename IsRd _ _ _ => lR); cases lR; (try dsimp only)))
local macro_rules | `(tactic| walk_at "call ref") => `(tactic| ((with_reducible show wpAny _ _ (call (Value.ref 158) _) _ _ _); k_dflt (refine' read_claim _ _ _ _ _ _ _ _ _ _ _ _ _ _ _ _ _ _ _ ?k1 ?k2 ?k3 ?k4 ?k5 ?kK ?kd ?ku ?k6 ?_; (case k1 => k_asm); (case k2 => k_asm); (case k3 => k_asm); (case k4 => k_asm); (case k5 => k_asm); (case kK => first | exact rfl | assumption); (case kd => ktr_room); (case ku => ktr_units); (case k6 => assumption)); intro l vs h' tk' hv F' N' hl; rw [‹lawRead _ = _›] at hv; (first | (obtain ⟨k1, hv⟩ := hv; subst hv) | (obtain ⟨k1, k2, k3, hv⟩ := hv; subst hv) | (obtain ⟨k1, k2, k3, k4, hv⟩ := hv; subst hv)); (try dsimp only)))
local macro_rules | `(tactic| kts_caughtN) => `(tactic| (refine' code_defS0 ?k1 ?k2 ?k3 ?k4 ?k5 ?kA ?k6 ?k7 ?k8 ?k9 ?kB ?_ ?cK ?c2 ?c3 ?c4 ?c5; (case kA => exact rfl); (case k2 => k_asm); (case k1 => k_asm); (case k3 => k_asm); (case k4 => k_asm); (case k5 => k_asm); (case k6 => k_is); (case k7 => k_is); (case k8 => ktr_room); (case k9 => exact BindsTo.of_eq rfl); (case kB => exact locs rfl); (case cK => assumption); (case c2 => exact rfl); (case c3 => exact rfl); (case c4 => exact rfl); (case c5 => decide); k_whole; intro g' L' h' FG' F' N' B' X' T' D'; (try dsimp only); (try k_lift B'); (try k_fold)))
local macro_rules | `(tactic| ktr_rel) => `(tactic| first | exact .head _ | exact .tail _ (.head _) | exact .tail _ (.tail _ (.head _)) | exact .tail _ (.tail _ (.tail _ (.head _))) | exact .tail _ (.tail _ (.tail _ (.tail _ (.head _)))) | exact .tail _ (.tail _ (.tail _ (.tail _ (.tail _ (.head _))))) | exact .tail _ (.tail _ (.tail _ (.tail _ (.tail _ (.tail _ (.head _)))))))
local macro_rules | `(tactic| tb_rel) => `(tactic| (intro p hp; first | exact .tail _ (.tail _ (.tail _ (.tail _ hp))) | exact .tail _ (.tail _ (.tail _ (.tail _ (.tail _ hp)))) | exact .tail _ (.tail _ (.tail _ (.tail _ (.tail _ (.tail _ hp))))) | exact .tail _ (.tail _ (.tail _ (.tail _ (.tail _ (.tail _ (.tail _ hp)))))) | exact .tail _ (.tail _ (.tail _ (.tail _ (.tail _ (.tail _ (.tail _ (.tail _ hp)))))))))
local macro_rules | `(tactic| walk_at "compareOp NotEq ref ref") => `(tactic| ((with_reducible show wpAny _ _ (compareOp CmpOp.NotEq (Value.ref _) (Value.ref _)) _ _ _); k_dflt (refine' ne_pair ?k1 ?k2 ?k3 ?k4 ?k5 ?k6 ?ku ?_; (case k1 => k_asm); (case k2 => ktr_rel); (case k4 => ktr_rel); (case k3 => ktr_rel); (case k5 => ktr_rel); (case k6 => first | exact Nat.ne_of_lt (by omega) | exact Nat.ne_of_gt (by omega)); (case ku => ktr_units)); (try dsimp only)))
local macro_rules | `(tactic| walk_at "noteFrame ref") => `(tactic| ((with_reducible show wpAny _ _ (noteFrame _ _) (fun _ s₂ => wpAny _ _ (setFlight _ none) (fun _ s₃ => wpAny _ _ (handleBy _ _ (ExceptHandler.ExceptHandler (some (Expr.Name ("BadSyntax_notation3" : Str) _)) (some _) _ _ :: _)) _ _ s₃) _ s₂) _ _); k_dflt (refine' caught_own (C := 141) ?R ?hda ?F ?K ?hsm ?XB ?TB ?D ?T0 ?ex ?q ?_; (case R => assumption); (case hda => assumption); (case F => assumption); (case K => assumption); (case hsm => assumption); (case XB => assumption); (case TB => assumption); (case D => assumption); (case T0 => first | assumption | exact KtsTurn.refl); (case ex => k_is); (case q => kts_isx); k_whole); intro h' g' oe tk' T' F' c1 c2 c3 N' K' X' P' D'; (try k_lift K'); (try k_sweep)))
local macro_rules | `(tactic| walk_at "getAttr ref") => `(tactic| (k_dflt (refine' ex_get ?F ?N ?B ?hc ?hd ?hnc ?hod ?hn ?hv ?hh ?_; (case hc => assumption); (case F => k_asm); (case N => k_asm); (case B => exact badCls_K (by k_asm)); (case hd => assumption); (case hnc => assumption); (case hod => assumption); (case hn => decide +kernel); (case hv => first | exact exMap_i | exact exMap_why | exact exMap_lines); (case hh => rfl)); (try dsimp only)))
local macro_rules | `(tactic| walk_at "compareOp NotEq ref ref") => `(tactic| ((with_reducible show wpAny _ _ (compareOp CmpOp.NotEq (Value.ref _) (Value.ref _)) _ _ _); k_dflt (refine' ne_pair ?k1 ?k2 ?k3 ?k4 ?k5 ?k6 ?ku ?_; (case k1 => k_asm); (case k2 => ktr_rel); (case k4 => ktr_rel); (case k3 => ktr_rel); (case k5 => ktr_rel); (case k6 => first | exact Nat.ne_of_lt (by omega) | exact Nat.ne_of_gt (by omega)); (case ku => ktr_units)); (try dsimp only)))
local macro_rules | `(tactic| k_all) => `(tactic| ((try dsimp only [TurnPost]); refine' At.of (_, _) ?aF ?aN ?an ?ak ?ar ?ad; (case aF => assumption); (case aN => assumption); (case an => exact fun _ h => h); (case ak => kst_all); (case ar => (intro z h2 h3; (try simp only [List.forall_mem_cons, List.not_mem_nil, false_implies, implies_true, and_true, ne_eq] at h2); first | rfl | (simp [h2]; done))); (try dsimp only)))
theorem step_claim {prog : Program} {w : World} {loose : List Str} {mean : ExcName → Option Value} {mg mb : Str → Option Value} {rest : List (Addr × Obj)}
    (dp un : Nat) (gd : Option (List Code)) (cn : Str) (cs : Scope) (a : Addr) (ccd : Value) (A₀ : Around) (base h₀ : Heap) (L : Addr) (m : Str → Option Value) (s : Shared) (Q E : Value → Shared → Prop)
    (t : Str) (tk : Tok) (r rd : Addr) (o : Obj) (ln : Int) (tl : Tok) (j d : Int)
    (B₁ : Below A₀ base [] h₀) (F : Fr h₀ L s.heap m) (X : (hd.heap_39 w.params).In h₀) (N : News h₀ L s.heap ((r, instObj 120 rd) :: (rd, o) :: rest)) (T : Top hd.view_39 loose mean mg mb h₀) (hk : cs.kind = .function)
    (hd1 : dp + 20 < recursionLimit) (hun : un + 200 < cLine)
    (ok : Ok t) (esc : NoEsc t) (st : Start t j d) (hdl : Begins t d) (hR : IsRd w.params o ln) (hne : @Ne Nat r rd) (hrest : ∀ p ∈ rest, p.1 ≠ rd) (hcl : Clean t)
    (hret : ∀ k o' h' tk', IsRd w.params o' (ln + d) → Fr h₀ L h' m → News h₀ L h' ((r, instObj 120 rd) :: (rd, o') :: rest) → Q (.int (ln + d) k) { s with heap := h', toks := tk' }) :
    wpAny (model prog w) (ktrTop dp un gd cn cs L a ccd [] []) (call (.ref 165) [.ref r, .str t tk, .int ln tl]) Q E s := by
  have hlen := ok.len
  have hmax := ok.most
  have B : Below A₀ h₀ [] h₀ := ⟨B₁.stack, fun _ _ e => e, trivial⟩
  clear B₁
  cases hR
  have hb1 : (Txt.item t 0 == Str.ofString "\n") = true → d = 1 := fun h => by
    have := f_eq (t := t) (i := 0) s_nl h (by omega) (by omega)
    rw [hdl, if_pos this]
  have hb0 : (Txt.item t 0 == Str.ofString "\n") = false → d = 0 := fun h => by
    have := f_ne (t := t) (i := 0) s_nl h (by omega) (by omega)
    rw [hdl, if_neg this]
  cases ho : lawRead t with
  | none =>
    w_top off
    k_with_none
    refine wpAny_call ?_
    k_dflt kts_caughtN
    k_with "exec If" => refine Held.on (n := 3) ?_
    k_steps
    k_with_none
    refine Held.off ?_
    rename Fr _ _ _ _ => lF
    rename News _ _ _ _ => lN
    refine' cutOne (σ := Int × Tok) (Str.ofString "lines") (fun c => .int c.1 c.2) (fun c => c.1 = ln + d) lF lN ?fst0 ?rst0
    case fst0 =>
      k_steps
      · k_all
        rw [hb1 (by assumption)]
      · k_all
        rw [hb0 (by assumption), Int.add_zero]
    rintro ⟨ln', tl'⟩ h tk' e1 F1 N1
    clear lF lN
    dsimp only at *
    subst e1
    k_steps
    all_goals first
      | exact absurd rfl ‹ln + d ≠ ln + d›
      | (rename Fr _ _ _ _ => lF; rename News _ _ _ _ => lN; exact hret _ _ _ _ IsRd.mk lF (news_cut lN (.tail _ (.head _)) (.tail _ (.tail _ (.head _))) fun p hp => .tail _ (.tail _ (.tail _ (.tail _ (.tail _ hp))))))
  | refused place why =>
    k_with_none
    refine wpAny_call ?_
    k_dflt kts_caughtN
    k_with "exec If" => refine Held.on (n := 3) ?_
    k_steps
    k_with_none
    refine Held.off ?_
    rename Fr _ _ _ _ => lF
    rename News _ _ _ _ => lN
    refine' cutOne (σ := Int × Tok) (Str.ofString "lines") (fun c => .int c.1 c.2) (fun c => c.1 = ln + d) lF lN ?fst1 ?rst1
    case fst1 =>
      k_steps
      · k_all
        rw [hb1 (by assumption)]
      · k_all
        rw [hb0 (by assumption), Int.add_zero]
    rintro ⟨ln', tl'⟩ h tk' e1 F1 N1
    clear lF lN
    dsimp only at *
    subst e1
    k_steps
    all_goals first
      | exact absurd rfl ‹ln + d ≠ ln + d›
      | exact absurd rfl ‹place ≠ place›
      | exact absurd ‹(why != why) = true› (by simp)
      | (rename Fr _ _ _ _ => lF; rename News _ _ _ _ => lN; exact hret _ _ _ _ IsRd.mk lF (news_cut lN (.tail _ (.tail _ (.tail _ (.head _)))) (.tail _ (.tail _ (.tail _ (.tail _ (.head _))))) fun p hp => .tail _ (.tail _ (.tail _ (.tail _ (.tail _ (.tail _ (.tail _ hp))))))))
  | told pfx loc stop =>
    k_with_none
    refine wpAny_call ?_
    k_dflt kts_caughtN
    k_with "exec If" => refine Held.on (n := 3) ?_
    k_steps
    k_with_none
    refine Held.off ?_
    rename Fr _ _ _ _ => lF
    rename News _ _ _ _ => lN
    refine' cutOne (σ := Int × Tok) (Str.ofString "lines") (fun c => .int c.1 c.2) (fun c => c.1 = ln + d) lF lN ?fst2 ?rst2
    case fst2 =>
      k_steps
      · k_all
        rw [hb1 (by assumption)]
      · k_all
        rw [hb0 (by assumption), Int.add_zero]
    rintro ⟨ln', tl'⟩ h tk' e1 F1 N1
    clear lF lN
    dsimp only at *
    subst e1
    k_steps
    all_goals first
      | exact absurd rfl ‹ln + d ≠ ln + d›
      | exact absurd rfl ‹stop ≠ stop›
      | (rename Fr _ _ _ _ => lF; rename News _ _ _ _ => lN; exact hret _ _ _ _ IsRd.mk lF (news_cut lN (.tail _ (.tail _ (.tail _ (.head _)))) (.tail _ (.tail _ (.tail _ (.tail _ (.head _))))) fun p hp => .tail _ (.tail _ (.tail _ (.tail _ (.tail _ (.tail _ (.tail _ hp))))))))
end
end Mine
namespace Mine
/-- the list of the numbers stands wherever the ground and what is owned stand -/
def Nums (h₀ : Heap) (own : List (Addr × Obj)) (a : Addr) (vs : List Value) : Prop :=
  ∀ h L, (∀ b o, h₀.get? b = some o → h.get? b = some o) → News h₀ L h own → h.IsList a vs.toArray
section
variable {prog : Program} {w : World} {A : Around} {E : Value → Shared → Prop} {Q : Flow → Shared → Prop} {s : Shared} {h₀ h : Heap} {L a : Addr} {m : Str → Option Value} {own news : List (Addr × Obj)} {vs : List Value} {ns : List Int}
theorem Nums.at (H : Nums h₀ own a vs) (F : Fr h₀ L h m) (N : News h₀ L h news) (sub : ∀ p ∈ own, p ∈ news) : h.IsList a vs.toArray := H h L F.keep fun p hp => N p (sub p hp)
def NumsAt (h₀ : Heap) (L : Addr) (s : Shared) (m : Str → Option Value) (s₂ : Shared) : Prop :=
  ∃ a vs ns own h tk, s₂ = { s with heap := h, toks := tk } ∧ Nums h₀ own a vs ∧ IntsAre vs ns ∧ 0 < ns.length ∧ ns.length ≤ 63 ∧ Fr h₀ L h (fun y => if y = Str.ofString "numbers" then some (.ref a) else m y) ∧ News h₀ L h own
theorem NumsAt.of {h : Heap} {tk : Nat} (H : Nums h₀ own a vs) (hi : IntsAre vs ns) (h1 : 0 < ns.length) (h2 : ns.length ≤ 63) (F : Fr h₀ L h (fun y => if y = Str.ofString "numbers" then some (.ref a) else m y)) (N : News h₀ L h own) : NumsAt h₀ L s m { s with heap := h, toks := tk } :=
  ⟨a, vs, ns, own, h, tk, rfl, H, hi, h1, h2, F, N⟩
theorem cutNums {tree : Sem Flow} (_F : Fr h₀ L s.heap m)
    (h : wpAny (model prog w) A tree (fun f s₂ => match f with | .next => NumsAt h₀ L s m s₂ | f => Q f s₂) E s)
    (rest : ∀ a vs ns own h tk, Nums h₀ own a vs → IntsAre vs ns → 0 < ns.length → ns.length ≤ 63 → Fr h₀ L h (fun y => if y = Str.ofString "numbers" then some (.ref a) else m y) → News h₀ L h own → Q .next { s with heap := h, toks := tk }) :
    wpAny (model prog w) A tree Q E s := by
  refine wpAny_mono h (fun f s₂ q => ?_) fun _ _ x => x
  cases f with
  | ret v => exact q
  | next =>
    obtain ⟨a, vs, ns, own, h', tk, rfl, H, hi, h1, h2, F', N'⟩ := q
    exact rest a vs ns own h' tk H hi h1 h2 F' N'
  | brk => exact q
  | cont => exact q
theorem Nums.ofGround (hl : h₀.IsList a vs.toArray) : Nums h₀ [] a vs := fun h L k _ => hl.at fun o e => k a o e
theorem Nums.ofOwn {k : Nat} (hm : (a, W.listOf vs.toArray k) ∈ own) : Nums h₀ own a vs := fun h L _ N => ⟨_, (N _ hm).1, rfl, _, rfl⟩
end
section
variable {prog : Program} {w : World} {loose : List Str} {mean : ExcName → Option Value} {mg mb : Str → Option Value} {rest news : List (Addr × Obj)}
/-- a step as the law makes it -/
theorem step_good {dp un : Nat} {gd : Option (List Code)} {cn : Str} {cs : Scope} {a : Addr} {ccd : Value} {A₀ : Around} {base h₀ : Heap} {L : Addr} {m : Str → Option Value} {s : Shared} {Q E : Value → Shared → Prop}
    {t : Str} {tk : Tok} {r rd : Addr} {o : Obj} {ln : Int} {tl : Tok}
    (B₁ : Below A₀ base [] h₀) (F : Fr h₀ L s.heap m) (X : (hd.heap_39 w.params).In h₀) (N : News h₀ L s.heap news) (h1 : (r, instObj 120 rd) ∈ news) (h2 : (rd, o) ∈ news) (h3 : ∀ p ∈ rest, p ∈ news) (T : Top hd.view_39 loose mean mg mb h₀) (hk : cs.kind = .function)
    (hd1 : dp + 20 < recursionLimit) (hun : un + 200 < cLine)
    (hg : Good t) (hR : IsRd w.params o ln) (hne : @Ne Nat r rd) (hrest : ∀ p ∈ rest, p.1 ≠ rd) (hln : 0 ≤ ln)
    (hret : ∀ d k o' h' tk', 0 ≤ ln + d → IsRd w.params o' (ln + d) → Fr h₀ L h' m → News h₀ L h' ((r, instObj 120 rd) :: (rd, o') :: rest) → Q (.int (ln + d) k) { s with heap := h', toks := tk' }) :
    wpAny (model prog w) (ktrTop dp un gd cn cs L a ccd [] []) (call (.ref 165) [.ref r, .str t tk, .int ln tl]) Q E s := by
  obtain ⟨j, d, ok, esc, st, hdl, cl⟩ := hg
  have hd0 : 0 ≤ ln + d := by
    unfold Begins at hdl
    split at hdl <;> omega
  exact step_claim dp un gd cn cs a ccd A₀ base h₀ L m s Q E t tk r rd o ln tl j d B₁ F X (news_cut N h1 h2 h3) T hk hd1 hun ok esc st hdl hR hne hrest cl fun k o' h' tk' R' F' N' => hret d k o' h' tk' hd0 R' F' N'
end
section
variable {prog : Program} {w : World} {A : Around} {E : Value → Shared → Prop} {Q : Flow → Shared → Prop} {s : Shared} {env : Env} {h₀ : Heap} {x : Str} {body : List Stmt} {r rd : Addr} {own news : List (Addr × Obj)} {m₀ : Str → Option Value} {P : Params}
def sLines : Str := Str.ofString "lines"
/-- behind a turn: the reader with its count, the frame's name «lines» with the same count -/
def RdAt (P : Params) (h₀ : Heap) (L : Addr) (s : Shared) (x : Str) (stored : List Str) (m₀ : Str → Option Value) (r rd : Addr) (own own' : List (Addr × Obj)) (s₂ : Shared) : Prop :=
  ∃ ln tl o h' tk' m', s₂ = { s with heap := h', toks := tk' } ∧ Fr h₀ L h' m' ∧ News h₀ L h' ((r, instObj 120 rd) :: (rd, o) :: (own ++ own')) ∧ m' (Str.ofString "lines") = some (.int ln tl) ∧ (∀ z, z ≠ x → z ≠ Str.ofString "lines" → stored.contains z = false → m' z = m₀ z) ∧ 0 ≤ ln ∧ IsRd P o ln
def RdPost (P : Params) (h₀ : Heap) (L : Addr) (s : Shared) (x : Str) (stored : List Str) (m₀ : Str → Option Value) (r rd : Addr) (own own' : List (Addr × Obj)) (Q : Flow → Shared → Prop) (f : Flow) (s₂ : Shared) : Prop :=
  match f with
  | .ret v => Q (.ret v) s₂
  | .brk => Q .next s₂
  | _ => RdAt P h₀ L s x stored m₀ r rd own own' s₂
theorem RdAt.of {L : Addr} {h' : Heap} {tk' : Nat} {m' : Str → Option Value} {ln : Int} {tl : Tok} {o : Obj} {stored : List Str} {own' : List (Addr × Obj)} (F : Fr h₀ L h' m') (N : News h₀ L h' ((r, instObj 120 rd) :: (rd, o) :: (own ++ own'))) (h1 : m' (Str.ofString "lines") = some (.int ln tl)) (h2 : ∀ z, z ≠ x → z ≠ Str.ofString "lines" → stored.contains z = false → m' z = m₀ z) (h3 : 0 ≤ ln) (h4 : IsRd P o ln) :
    RdAt P h₀ L s x stored m₀ r rd own own' { s with heap := h', toks := tk' } := ⟨ln, tl, o, h', tk', m', rfl, F, N, h1, h2, h3, h4⟩
theorem loopR {rg : Addr} {a₀ b₀ : Int} {t₀ u₀ v₀ : Tok} {n : Nat} {ln₀ : Int} {tl₀ : Tok} {o₀ : Obj} (stored : List Str)
    (hh : A.handled = none) (hr : IsRange s.heap rg a₀ b₀ 1 t₀ u₀ v₀) (hsmall : Builtin.Range.small a₀ b₀ 1 = true) (hn : Builtin.Range.rangeSize a₀ b₀ 1 = (n : Int)) (F : Fr h₀ env.locals s.heap m₀) (N : News h₀ env.locals s.heap news)
    (h1 : (r, instObj 120 rd) ∈ news) (h2 : (rd, o₀) ∈ news) (h3 : ∀ p ∈ own, p ∈ news) (hl : ∀ p ∈ [(Str.ofString "lines", Value.int ln₀ tl₀)], m₀ p.1 = some p.2) (h0 : 0 ≤ ln₀) (hR : IsRd P o₀ ln₀) (hown : ∀ p ∈ own, p.1 ≠ rd)
    (turn : ∀ (ln : Int) tl o (k : Int) t (u : Str → Option Value) h tk own', a₀ ≤ k → k < a₀ + n → (∀ p ∈ own ++ own', p.1 ≠ rd) → 0 ≤ ln → IsRd P o ln →
      Fr h₀ env.locals h (fun y => if y = x then some (.int k t) else if y = Str.ofString "lines" then some (.int ln tl) else if stored.contains y then u y else m₀ y) → News h₀ env.locals h ((r, instObj 120 rd) :: (rd, o) :: (own ++ own')) →
      wpAny (model prog w) A (execs body env) (RdPost P h₀ env.locals s x stored m₀ r rd own own' Q) E { s with heap := h, toks := tk })
    (done : ∀ (ln : Int) tl o (u : Str → Option Value) h tk, 0 ≤ ln → IsRd P o ln → Fr h₀ env.locals h (fun y => if y = x then u y else if y = Str.ofString "lines" then some (.int ln tl) else if stored.contains y then u y else m₀ y) → News h₀ env.locals h ((r, instObj 120 rd) :: (rd, o) :: own) → Q .next { s with heap := h, toks := tk }) :
    wpAny (model prog w) A (pyIter (.ref rg)) (fun it s₂ => LoopAtV prog w A h₀ env x body Q E it s₂) E s := by
  refine kst_range (σ := Int × Tok × Obj) (fun c => (r, instObj 120 rd) :: (rd, c.2.2) :: own) (fun c => [(Str.ofString "lines", .int c.1 c.2.1)]) (fun c => 0 ≤ c.1 ∧ IsRd P c.2.2 c.1) stored (fun _ _ => True) (ln₀, tl₀, o₀) hh hr hsmall hn F (news_cut N h1 h2 h3) ⟨h0, hR⟩ ?_ trivial ?_ ?_
  · exact hl
  · rintro ⟨ln, tl, o⟩ pre k t u h tk own' hk hlt hoff ⟨f1, f2⟩ _ F₁ N₁
    refine wpAny_mono (turn ln tl o k t u h tk own' (by omega) (by omega) (fun p hp => ?_) f1 f2 (by rw [kstB_one] at F₁; exact F₁) N₁) (fun f s₂ q => ?_) fun _ _ x => x
    · rcases List.mem_append.mp hp with hp | hp
      · exact hown p hp
      · exact hoff p hp rd (.tail _ (.head _))
    have go : RdAt P h₀ env.locals s x stored m₀ r rd own own' s₂ → InvEndN h₀ env.locals (KstS (σ := Int × Tok × Obj) (fun c => (r, instObj 120 rd) :: (rd, c.2.2) :: own) (fun c => [(Str.ofString "lines", .int c.1 c.2.1)]) (fun c => 0 ≤ c.1 ∧ IsRd P c.2.2 c.1) x stored m₀ (fun _ _ => True) (pre ++ [k])) own' (((r, instObj 120 rd) :: (rd, o₀) :: own).map (·.1)) { s with heap := h, toks := tk } s₂ := by
      rintro ⟨ln', tl', o', h', tk', m', rfl, F', N', e1, e2, e3, e4⟩
      refine kst_end (ln', tl', o') F' N' (fun p hp => ?_) (fun p hp => .tail _ (.tail _ (List.mem_append_right _ hp))) rfl ⟨e3, e4⟩ (fun p hp => ?_) (fun z z1 z2 z3 => e2 z z1 (z2 _ (.head _)) z3) trivial
      · exact List.mem_append_left own' hp
      · rw [List.mem_singleton.mp hp]
        exact e1
    cases f with
    | ret v => exact q
    | next => exact go q
    | brk => exact q
    | cont => exact go q
  · rintro ⟨ln, tl, o⟩ u h tk ⟨f1, f2⟩ _ F₁ N₁
    exact done ln tl o u h tk f1 f2 (by rw [kstB_one] at F₁; exact F₁) N₁
end
section
variable {prog : Program} {w : World} {A : Around} {E : Value → Shared → Prop} {Q : Flow → Shared → Prop} {s : Shared} {env : Env} {h₀ : Heap} {x : Str} {body : List Stmt} {news : List (Addr × Obj)} {m₀ : Str → Option Value}
def Drawn (t : Str) : Prop := ∀ c ∈ t.cps.toList, c ∈ drawnL
/-- behind a turn of the drawing: one sign more -/
def TxAt (h₀ : Heap) (L : Addr) (s : Shared) (x : Str) (m₀ : Str → Option Value) (t : Str) (news own' : List (Addr × Obj)) (s₂ : Shared) : Prop :=
  ∃ t' tx h' tk' m', s₂ = { s with heap := h', toks := tk' } ∧ Fr h₀ L h' m' ∧ News h₀ L h' (news ++ own') ∧ m' (Str.ofString "text") = some (.str t' tx) ∧ (∀ z, z ≠ x → z ≠ Str.ofString "text" → m' z = m₀ z) ∧ Drawn t' ∧ t'.length = t.length + 1
def TxPost (h₀ : Heap) (L : Addr) (s : Shared) (x : Str) (m₀ : Str → Option Value) (t : Str) (news own' : List (Addr × Obj)) (Q : Flow → Shared → Prop) (f : Flow) (s₂ : Shared) : Prop :=
  match f with
  | .ret v => Q (.ret v) s₂
  | .brk => Q .next s₂
  | _ => TxAt h₀ L s x m₀ t news own' s₂
theorem TxAt.of {L : Addr} {h' : Heap} {tk' : Nat} {m' : Str → Option Value} {t t' : Str} {tx : Tok} {own' : List (Addr × Obj)} (F : Fr h₀ L h' m') (N : News h₀ L h' (news ++ own')) (h1 : m' (Str.ofString "text") = some (.str t' tx)) (h2 : ∀ z, z ≠ x → z ≠ Str.ofString "text" → m' z = m₀ z) (h3 : Drawn t') (h4 : t'.length = t.length + 1) :
    TxAt h₀ L s x m₀ t news own' { s with heap := h', toks := tk' } := ⟨t', tx, h', tk', m', rfl, F, N, h1, h2, h3, h4⟩
theorem loopT {rg : Addr} {b₀ : Int} {t₀ u₀ v₀ : Tok} {n : Nat} {txt₀ : Str} {tx₀ : Tok}
    (hh : A.handled = none) (hr : IsRange s.heap rg 0 b₀ 1 t₀ u₀ v₀) (hsmall : Builtin.Range.small 0 b₀ 1 = true) (hn : Builtin.Range.rangeSize 0 b₀ 1 = (n : Int)) (F : Fr h₀ env.locals s.heap m₀) (N : News h₀ env.locals s.heap news)
    (hl : ∀ p ∈ [(Str.ofString "text", Value.str txt₀ tx₀)], m₀ p.1 = some p.2) (h0 : txt₀ = Str.ofString "")
    (turn : ∀ (t : Str) tx (k : Int) tt h tk own', 0 ≤ k → k < n → Drawn t → (t.length : Int) = k →
      Fr h₀ env.locals h (fun y => if y = x then some (.int k tt) else if y = Str.ofString "text" then some (.str t tx) else m₀ y) → News h₀ env.locals h (news ++ own') →
      wpAny (model prog w) A (execs body env) (TxPost h₀ env.locals s x m₀ t news own' Q) E { s with heap := h, toks := tk })
    (done : ∀ (t : Str) tx (u : Str → Option Value) h tk, Drawn t → t.length = n → Fr h₀ env.locals h (fun y => if y = x then u y else if y = Str.ofString "text" then some (.str t tx) else m₀ y) → News h₀ env.locals h news → Q .next { s with heap := h, toks := tk }) :
    wpAny (model prog w) A (pyIter (.ref rg)) (fun it s₂ => LoopAtV prog w A h₀ env x body Q E it s₂) E s := by
  refine kst_range (σ := Str × Tok) (fun _ => news) (fun c => [(Str.ofString "text", .str c.1 c.2)]) (fun _ => True) [] (fun pre c => Drawn c.1 ∧ c.1.length = pre.length) (txt₀, tx₀) hh hr hsmall hn F N trivial ?_ ?_ ?_ ?_
  · exact hl
  · subst h0
    exact ⟨fun c hc => absurd hc (by have : (Str.ofString "").cps.toList = [] := by decide +kernel
                                     rw [this]; exact List.not_mem_nil), (by decide +kernel : (Str.ofString "").length = 0)⟩
  · rintro ⟨t, tx⟩ pre k tt u h tk own' hk hlt hoff _ ⟨f1, f2⟩ F₁ N₁
    refine wpAny_mono (turn t tx k tt h tk own' (by omega) (by omega) f1 (by rw [f2]; omega) (by rw [kstB_one] at F₁; exact F₁) N₁) (fun f s₂ q => ?_) fun _ _ x => x
    have go : TxAt h₀ env.locals s x m₀ t news own' s₂ → InvEndN h₀ env.locals (KstS (σ := Str × Tok) (fun _ => news) (fun c => [(Str.ofString "text", .str c.1 c.2)]) (fun _ => True) x [] m₀ (fun pre c => Drawn c.1 ∧ c.1.length = pre.length) (pre ++ [k])) own' (news.map (·.1)) { s with heap := h, toks := tk } s₂ := by
      rintro ⟨t', tx', h', tk', m', rfl, F', N', e1, e2, e3, e4⟩
      refine kst_end (t', tx') F' N' (fun p hp => List.mem_append_left _ hp) (fun p hp => List.mem_append_right _ hp) rfl trivial (fun p hp => ?_) (fun z z1 z2 _ => e2 z z1 (z2 _ (.head _))) ⟨e3, ?_⟩
      · rw [List.mem_singleton.mp hp]
        exact e1
      · simp only [List.length_append, List.length_singleton]
        rw [← f2]
        exact e4
    cases f with
    | ret v => exact q
    | next => exact go q
    | brk => exact q
    | cont => exact go q
  · rintro ⟨t, tx⟩ u h tk _ ⟨f1, f2⟩ F₁ N₁
    exact done t tx u h tk f1 (by rw [f2]; exact rangeKs_length _ _) (by rw [kstB_one] at F₁; exact F₁) N₁
theorem drawn_text {t : Str} (h : Drawn t) (h1 : 1 ≤ t.length) (h2 : t.length ≤ 7) : Good (t ++ Str.ofString "  ") := by
  have hl : t.cps.toList.length = t.length := by show t.cps.toList.length = t.cps.size; simp
  have g := good_of (drawn_good h (by rw [hl]; exact h1) (by rw [hl]; exact h2))
  have e : (t ++ Str.ofString "  ").cps.toList = t.cps.toList ++ [32, 32] := app_list rfl t9
  rw [← e] at g
  exact (str_list (t := t ++ Str.ofString "  ") rfl) ▸ g
theorem t10 : (Str.ofString "a0-_.:%é").cps.toList = drawnL := by decide +kernel
theorem drawn_more {t : Str} {i : Int} (h : Drawn t) (h0 : 0 ≤ i) (h1 : i < 8) : Drawn (t ++ Txt.item (Str.ofString "a0-_.:%é") i) ∧ (t ++ Txt.item (Str.ofString "a0-_.:%é") i).length = t.length + 1 := by
  have hl : (Str.ofString "a0-_.:%é").length = 8 := by decide +kernel
  rw [item_cd h0 (by rw [hl]; exact h1)]
  constructor
  · intro c hc
    rw [app_list rfl sign_list] at hc
    rcases List.mem_append.mp hc with hc | hc
    · exact h c hc
    · rw [List.mem_singleton.mp hc]
      unfold cd
      rw [Array.getD_eq_getD_getElem?, ← Array.getElem?_toList, t10]
      have : i.toNat = 0 ∨ i.toNat = 1 ∨ i.toNat = 2 ∨ i.toNat = 3 ∨ i.toNat = 4 ∨ i.toNat = 5 ∨ i.toNat = 6 ∨ i.toNat = 7 := by omega
      rcases this with e | e | e | e | e | e | e | e <;> rw [e] <;> decide
  · rw [PySem.Str.length_append]; rfl
end
theorem last_read : lawRead (Str.ofString "a:b  ") = .told (Str.ofString "a") (Str.ofString "b") 3 := by kernel_rfl
theorem last_list : (Str.ofString "a:b  ").cps.toList = [97, 58, 98, 32, 32] := by decide +kernel
theorem last_good : Good (Str.ofString "a:b  ") := (str_list (t := Str.ofString "a:b  ") rfl) ▸ good_of (l := (Str.ofString "a:b  ").cps.toList) (by rw [last_list]; decide +kernel)
theorem qn_last {prog : Program} {w : World} {loose : List Str} {mean : ExcName → Option Value} {mg mb : Str → Option Value} {rest : List (Addr × Obj)}
    {dp un : Nat} {gd : Option (List Code)} {cn : Str} {cs : Scope} {a : Addr} {ccd : Value} {cl : List (Str × Addr)} {outer : List Env} {A₀ : Around} {base h₀ : Heap} {L : Addr} {m : Str → Option Value} {s : Shared} {Q E : Value → Shared → Prop}
    {tk : Tok} {r rd f : Addr} {o : Obj} {ln : Int} {ti : Tok}
    (B : Below A₀ base outer h₀) (F : Fr h₀ L s.heap m) (X : (hd.heap_39 w.params).In h₀) (N : News h₀ L s.heap ((f, W.listOf #[] 0) :: (r, instObj 120 rd) :: (rd, o) :: rest)) (T : Top hd.view_39 loose mean mg mb h₀) (hk : cs.kind = .function)
    (hd1 : dp + 10 < recursionLimit) (hun : un + 100 < cLine)
    (hR : IsRd w.params o ln) (hne : @Ne Nat r rd) (hrest : ∀ p ∈ rest, p.1 ≠ rd) (l1 : AllLt f ((r, instObj 120 rd) :: (rd, o) :: rest))
    (hret : ∀ k o' h' tk' tu k1 k2, IsRd w.params o' ln → Fr h₀ L h' m → News h₀ L h' ((tu, tupOf (Str.ofString "a") k1 (Str.ofString "b") k2) :: (r, instObj 120 rd) :: (rd, o') :: (f, W.listOf #[.ref tu] 1) :: rest) → Q (.int 3 k) { s with heap := h', toks := tk' }) :
    wpAny (model prog w) (ktrTop dp un gd cn cs L a ccd cl outer) (call (.ref 82) [.ref r, .str (Str.ofString "a:b  ") tk, .int 0 ti, .ref f]) Q E s := by
  obtain ⟨j, d, ok, esc, st, hdl, cl'⟩ := last_good
  have hd0 : d = 0 := by
    unfold Begins at hdl
    rw [hdl, if_neg (by decide +kernel)]
  subst hd0
  have N' : News h₀ L s.heap ((r, instObj 120 rd) :: (rd, o) :: (f, W.listOf #[] 0) :: rest) := news_cut N (.tail _ (.head _)) (.tail _ (.tail _ (.head _))) fun p hp => by
    rcases List.mem_cons.mp hp with rfl | hp
    · exact .head _
    · exact .tail _ (.tail _ (.tail _ hp))
  refine qname_claim _ _ _ _ _ _ _ _ _ _ _ _ _ _ _ _ _ _ _ _ _ _ _ _ _ _ _ B F X N' T hk hd1 hun ok esc st hR hne (Nat.ne_of_lt l1.1) (Nat.ne_of_lt l1.2.1) hrest (fun p hp => Nat.ne_of_lt (allLt_mem l1.2.2 p hp)) cl' (by
    rw [last_read, Int.add_zero]
    exact hret) (fun _ _ h => by rw [last_read] at h; cases h)
end Mine
namespace Mine
theorem fillLw : PySem.Challenge.rw_ew5020_01 = PySem.Challenge.rw_ew5020_01 ∧ hd.heap_39 = hd.heap_39 := by
  k_fill
  exact ⟨rfl, rfl⟩
section
local macro_rules | `(tactic| walk_at "mine none") => `(tactic| fail "none")
local macro_rules | `(tactic| walk_at "pyIter ref") => `(tactic| ((with_reducible show wpAny _ _ (pyIter (Value.ref _)) (fun it s₂ => LoopAtV _ _ _ _ _ _ _ _ _ it s₂) _ _); refine Held.on (n := 5) ?_))
local macro_rules | `(tactic| walk_at "last pyIter ref") => `(tactic| ((with_reducible show wpAny _ _ (pyIter (Value.ref _)) (fun it s₂ => LoopAtV _ _ _ _ _ _ _ _ _ it s₂) _ _); refine Held.on (n := 5) ?_))
local macro_rules | `(tactic| is_list) => `(tactic| (refine' Nums.at ?H ?F ?N ?S; (case H => assumption); (case F => k_asm); (case N => k_asm); (case S => (intro p hp; repeat (first | exact hp | exact List.mem_append_left _ hp | refine List.Mem.tail _ ?_)))))
local macro_rules | `(tactic| walk_at "call builtin:chr") => `(tactic| refine chr_of_range (more_bnd _).1 (more_bnd _).2 ?_)
local macro_rules | `(tactic| k_all) => `(tactic| ((try dsimp only [TurnPost]); refine' At.of (_, _) ?aF ?aN ?an ?ak ?ar ?ad; (case aF => assumption); (case aN => assumption); (case an => first | exact fun _ h => h | exact fun _ h => .tail _ h); (case ak => kst_all); (case ar => (intro z h2 h3; (try simp only [List.forall_mem_cons, List.not_mem_nil, false_implies, implies_true, and_true, ne_eq] at h2); first | rfl | (simp [kstB, h2]; done) | ((simp only [List.contains_cons, List.contains_nil, Bool.or_false, Bool.or_eq_false_iff, beq_eq_false_iff_ne, ne_eq] at h3); (simp [kstB, h2, h3]; done)))); (try dsimp only)))
local macro_rules | `(tactic| walk_at "call ref") => `(tactic| ((with_reducible show wpAny _ _ (call (Value.ref 165) _) _ _ _); k_dflt (refine' step_good ?k1 ?k2 ?k3 ?k4 ?m1 ?m2 ?m3 ?k5 ?kK ?kd ?ku ?kg ?kR ?kne ?kr ?kl ?_; (case k1 => k_asm); (case k2 => k_asm); (case k3 => k_asm); (case k4 => k_asm); (case m1 => exact .head _); (case m2 => exact .tail _ (.head _)); (case m3 => exact fun p hp => .tail _ (.tail _ hp)); (case k5 => k_asm); (case kK => exact rfl); (case kd => ktr_room); (case ku => ktr_units); (case kg => assumption); (case kR => first | assumption | exact IsRd.mk); (case kne => first | exact Nat.ne_of_gt (by assumption) | exact Nat.ne_of_gt (by omega)); (case kr => assumption); (case kl => assumption)); intro d k' o' h' tk' hd' R' F' N'; (try dsimp only)))
local macro_rules | `(tactic| kts_caught) => `(tactic| ((try dsimp only [RdPost]); refine' RdAt.of ?aF ?aN ?ak ?ar ?a0 ?aR; (case aF => assumption); (case aN => assumption); (case ak => exact if_pos rfl); (case ar => (intro z h1 h2 h3; (simp only [List.contains_cons, List.contains_nil, Bool.or_false, Bool.or_eq_false_iff, beq_eq_false_iff_ne, ne_eq] at h3); (simp [h1, h2, h3]; done))); (case a0 => assumption); (case aR => assumption)))
local macro_rules | `(tactic| tb_rel) => `(tactic| ((try dsimp only [TxPost]); refine' TxAt.of ?aF ?aN ?ak ?ar ?a3 ?a4; (case aF => assumption); (case aN => assumption); (case ak => exact if_pos rfl); (case ar => (intro z h1 h2; (simp [h1, h2]; done)))))
local macro_rules | `(tactic| walk_at "call ref") => `(tactic| ((with_reducible show wpAny _ _ (call (Value.ref 82) _) _ _ _); k_dflt (refine' qn_last ?k1 ?k2 ?k3 ?k4 ?k5 ?kK ?kd ?ku ?kR ?kne ?kr ?kl ?_; (case k1 => k_asm); (case k2 => k_asm); (case k3 => k_asm); (case k4 => k_asm); (case k5 => k_asm); (case kK => exact rfl); (case kd => ktr_room); (case ku => ktr_units); (case kR => exact IsRd.mk); (case kne => first | exact Nat.ne_of_gt (by assumption) | exact Nat.ne_of_gt (by omega)); (case kr => exact fun p hp => Nat.ne_of_lt ((by assumption : ∀ p ∈ _, p.1 < _) p hp)); (case kl => assumption)); (intros; (rename IsRd _ _ _ => lR); cases lR; (try dsimp only))))
local macro_rules | `(tactic| walk_at "compareOp Eq ref ref") => `(tactic| ((with_reducible show wpAny _ _ (compareOp CmpOp.Eq (Value.ref _) (Value.ref _)) _ _ _); k_dflt (refine' eq_pair ?k1 ?k2 ?k3 ?k4 ?k5 ?k6 ?ku ?_; (case k1 => k_asm); (case k2 => ktr_rel); (case k4 => ktr_rel); (case k3 => ktr_rel); (case k5 => ktr_rel); (case k6 => first | exact Nat.ne_of_lt (by omega) | exact Nat.ne_of_gt (by omega)); (case ku => ktr_units)); (try dsimp only)))
local macro_rules | `(tactic| ktr_rel) => `(tactic| first | exact .head _ | exact .tail _ (.head _) | exact .tail _ (.tail _ (.head _)) | exact .tail _ (.tail _ (.tail _ (.head _))) | exact .tail _ (.tail _ (.tail _ (.tail _ (.head _)))) | exact .tail _ (.tail _ (.tail _ (.tail _ (.tail _ (.head _))))) | exact .tail _ (.tail _ (.tail _ (.tail _ (.tail _ (.tail _ (.head _)))))))
theorem law_walk : PySem.Challenge.rw_ew5020_01.Holds := by
  refine Mine.hd ?_
  k_go0
  all_goals try k_fold
  k_with_none
  k_with "exec Assign" => refine Held.on (n := 1) ?_
  k_steps
  k_with_none
  refine Held.off ?_
  rename Fr _ _ _ _ => lF
  refine cutNums lF ?first ?rest
  case first =>
    k_steps
    · rename Fr _ _ _ _ => lG
      rename News _ _ _ _ => lN
      exact NumsAt.of (Nums.ofGround (by assumption)) (by assumption) (by assumption) (by omega) lG lN
    · rename Fr _ _ _ _ => lG
      rename News _ _ _ _ => lN
      exact NumsAt.of (vs := [Value.int 0 _]) (Nums.ofOwn (.head _)) (IntsAre.cons 0 _ .nil) (by decide) (by decide) lG lN
  case rest =>
    clear lF
    intro na nvs nns own h tk hN hI hl0 hl1 lF lN
    k_steps
    refine Held.off ?_
    rename IsRange _ _ _ _ _ _ _ _ => rgX
    rename Fr _ _ _ _ => lF
    rename News _ _ _ _ => lN
    refine' loopR [Str.ofString "place", Str.ofString "sign", Str.ofString "form", Str.ofString "text"] rfl rgX (by decide) (by rfl) lF lN (.tail _ (.tail _ (.tail _ (.tail _ (.tail _ (.tail _ (.head _))))))) (.tail _ (.tail _ (.tail _ (.tail _ (.tail _ (.tail _ (.tail _ (.head _))))))))
      (fun p hp => .tail _ (.tail _ (.tail _ (.tail _ (.tail _ (.tail _ (.tail _ (.tail _ hp)))))))) (by kst_all) (by decide) IsRd.mk (fun p hp => Nat.ne_of_lt ((by assumption : ∀ p ∈ own, p.1 < _) p hp)) ?turn ?done
    case turn =>
      intro ln tl o k t u h tk own' hk0 hk1 hoff hln hR' lF1 lN1
      clear lF lN rgX
      k_with "exec Assign" => ((with_reducible show wpAny _ _ (exec (Stmt.Assign [Expr.Name ("sign" : Str) _] _ _) _) _ _ _); refine Held.on (n := 11) ?_)
      k_steps
      k_with_none
      dsimp only at *
      refine Held.off ?_
      rename Fr _ _ _ _ => lF
      rename News _ _ _ _ => lN
      refine' cutOne (σ := Str × Tok) (Str.ofString "sign") (fun c => .str c.1 c.2) (fun c => ∃ n ∈ codes, c.1 = ⟨#[n]⟩) lF lN ?first ?rest
      case first =>
        k_steps
        · k_all
          exact ⟨_, code_lo (by assumption), rfl⟩
        · k_all
          exact ⟨_, code_hi (by assumption), rfl⟩
      case rest =>
        rintro ⟨c, tc⟩ h tk' ⟨n, hn, hc⟩ F1 N1
        clear lF lN
        dsimp only at *
        k_with "exec Assign" => refine Held.on (n := 12) ?_
        k_steps
        k_with_none
        refine Held.off ?_
        rename Fr _ _ _ _ => lF
        rename News _ _ _ _ => lN
        refine' cutOne (σ := Int × Tok) (Str.ofString "form") (fun c => .int c.1 c.2) (fun c => 0 ≤ c.1 ∧ c.1 < 6) lF lN ?first2 ?rest2
        case first2 =>
          k_steps
          · k_all
            exact mod6 _
        case rest2 =>
          rintro ⟨f, tf⟩ h tk' ⟨hf0, hf1⟩ F1 N1
          clear lF lN
          dsimp only at *
          k_with "exec Assign" => refine Held.on (n := 13) ?_
          k_steps
          k_with_none
          refine Held.off ?_
          rename Fr _ _ _ _ => lF
          rename News _ _ _ _ => lN
          refine' cutOne (σ := Str × Tok) (Str.ofString "text") (fun c => .str c.1 c.2) (fun c => Good (c.1 ++ Str.ofString "  ") ∧ c.1.length ≤ 20) lF lN ?first3 ?rest3
          case first3 =>
            have hf : f = 0 ∨ f = 1 ∨ f = 2 ∨ f = 3 ∨ f = 4 ∨ f = 5 := by omega
            clear hf0 hf1
            subst hc
            have hcl : (⟨#[n]⟩ : Str).length ≤ 1 := Nat.le_refl 1
            rcases hf with hf | hf | hf | hf | hf | hf
            · subst hf
              k_steps
              k_all
              exact ⟨form0 hn, Nat.le_of_ble_eq_true rfl⟩
            · subst hf
              k_steps
              k_all
              exact ⟨form1 hn, Nat.le_of_ble_eq_true rfl⟩
            · subst hf
              k_steps
              k_all
              exact ⟨form2 hn, Nat.le_of_ble_eq_true rfl⟩
            · subst hf
              k_steps
              k_all
              exact ⟨form3 hn, Nat.le_of_ble_eq_true rfl⟩
            · subst hf
              k_steps
              k_all
              exact ⟨form4 hn, Nat.le_of_ble_eq_true rfl⟩
            · subst hf
              k_steps
              k_all
              exact ⟨form5 hn, Nat.le_of_ble_eq_true rfl⟩
          case rest3 =>
            rintro ⟨x, tx⟩ h tk' ⟨hg, hxl⟩ F1 N1
            clear lF lN
            dsimp only at *
            k_steps
            kts_caught
    case done =>
      intro ln tl o u h tk hln hR' F1 N1
      clear lF lN rgX
      dsimp only at *
      k_steps
      refine Held.off ?_
      rename IsRange _ _ _ _ _ _ _ _ => rgX
      rename Fr _ _ _ _ => lF
      rename News _ _ _ _ => lN
      refine' loopR [Str.ofString "place", Str.ofString "number", Str.ofString "text"] rfl rgX (by decide) (by rfl) lF lN (.head _) (.tail _ (.head _))
        (fun p hp => .tail _ (.tail _ hp)) (by kst_all) (by assumption) (by assumption) (fun p hp => Nat.ne_of_lt ((by assumption : ∀ p ∈ own, p.1 < _) p hp)) ?turn2 ?done2
      case turn2 =>
        intro ln tl o k t u h tk own' hk0 hk1 hoff hln hR' lF1 lN1
        clear lF lN rgX
        dsimp only at *
        k_with "exec Assign" => refine Held.on (n := 15) ?_
        k_steps
        k_with_none
        refine Held.off ?_
        rename Fr _ _ _ _ => lF
        rename News _ _ _ _ => lN
        refine' cutOne (σ := Int × Tok) (Str.ofString "number") (fun c => .int c.1 c.2) (fun _ => True) lF lN ?first4 ?rest4
        case first4 =>
          k_steps
          k_all
        case rest4 =>
          rintro ⟨X, tX⟩ h tk' _ F1 N1
          clear lF lN
          dsimp only at *
          k_steps
          refine Held.off ?_
          rename IsRange _ _ _ _ _ _ _ _ => rgX
          rename Fr _ _ _ _ => lF
          rename News _ _ _ _ => lN
          have b0 : 0 ≤ X.fmod 7 := Int.fmod_nonneg_of_pos X (by decide)
          have b1 : X.fmod 7 < 7 := Int.fmod_lt_of_pos X (by decide)
          refine' loopT (n := (1 + X.fmod 7).toNat) rfl rgX (by exact small_one (by omega) (by omega) (by omega) (by omega)) (by rw [← Int.toNat_of_nonneg (show 0 ≤ 1 + X.fmod 7 by omega)]; exact rangeSize_nat _ _) lF lN (by kst_all) rfl ?turn3 ?done3
          case turn3 =>
            intro t tx k tt h tk own2 hj0 hj1 hdr hlen F1 N1
            clear lF lN rgX
            simp only [List.cons_append] at N1
            have htl : t.length ≤ 7 := by omega
            dsimp only at *
            k_steps
            · exact absurd (by assumption) (pow8 _)
            · tb_rel
              · exact (drawn_more hdr (mod8 _).1 (mod8 _).2).1
              · exact (drawn_more hdr (mod8 _).1 (mod8 _).2).2
          case done3 =>
            intro t tx u h tk hdr hlen F1 N1
            clear lF lN rgX
            dsimp only at *
            have htl : t.length ≤ 7 := by omega
            have hg : Good (t ++ Str.ofString "  ") := drawn_text hdr (by omega) htl
            k_steps
            kts_caught
      case done2 =>
        intro ln tl o u h tk hln hR' F1 N1
        clear lF lN rgX
        dsimp only at *
        cases hR'
        k_steps
end
end Mine
theorem PySem.Challenge.cw_ew5020_01_holds : PySem.Challenge.rw_ew5020_01.Holds :=
  Mine.law_walk
