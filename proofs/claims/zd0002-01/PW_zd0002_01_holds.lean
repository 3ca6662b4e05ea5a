import PyProof.Rows.All
import Wide.All
import OpenK.AllK
import Wide.FinOn
import Lean
import PySem.Challenge.RW_zd0002_01
set_option Elab.async false
set_option rowWalk.seconds 0
set_option compiler.extract_closed false
section
namespace Mine
open PySem PySem.W PyProof.Rows
set_option maxRecDepth 100000 in
set_option maxHeartbeats 8000000 in
open_top hd for PySem.Challenge.rw_zd0002_01
end Mine
end
theorem Mine.calm : True := by
  w_top off
  trivial
section
open PySem PySem.W PyProof.Rows PySem.Calls PySem.Builtin PySem.Builtin.Str
namespace Mine
/-! texts, no program in sight -/
theorem str_ext {x y : Str} (h : x.cps.toList = y.cps.toList) : x = y := by
  obtain ⟨⟨l⟩⟩ := x; obtain ⟨⟨l'⟩⟩ := y; exact congrArg (fun l => Str.mk ⟨l⟩) h
theorem len_list (x : Str) : x.cps.toList.length = x.length := Array.length_toList
theorem app_list (x y : Str) : (x ++ y).cps.toList = x.cps.toList ++ y.cps.toList := by
  show (x.cps ++ y.cps).toList = _
  simp
theorem slice_ab (x : Str) {a b : Nat} (hab : a ≤ b) (hb : b ≤ x.length) : (Txt.slice x (some (a : Int)) (some (b : Int))).cps.toList = (x.cps.toList.drop a).take (b - a) := by
  unfold Txt.slice
  split
  · rename_i h
    rw [StrLaws.strSliceIndices_plain hab hb] at h
    simp at h
    have h0 : a = 0 := by omega
    have h1 : b = x.length := by omega
    subst h0 h1
    rw [Nat.sub_zero, List.drop_zero, ← len_list x, List.take_length]
  · show (List.filterMap _ _).toArray.toList = _
    rw [List.toList_toArray]
    exact StrLaws.sliced_plain x hab hb
theorem slice_nb (x : Str) {b : Nat} (hb : b ≤ x.length) : (Txt.slice x none (some (b : Int))).cps.toList = x.cps.toList.take b := by
  have e : Txt.slice x none (some (b : Int)) = Txt.slice x (some ((0 : Nat) : Int)) (some (b : Int)) := by
    unfold Txt.slice
    have : strSliceIndices none (some (b : Int)) 1 x.length = strSliceIndices (some ((0 : Nat) : Int)) (some (b : Int)) 1 x.length := by
      unfold strSliceIndices
      have h0 : max (0 : Int) (min 0 (x.length : Int)) = 0 := by omega
      simp [h0]
    rw [this]
  rw [e, slice_ab x (Nat.zero_le _) hb]
  simp
/-- where a sign stands first -/
theorem find3_at (x : Str) {c lo k : Nat} (hk : x.cps.toList[k]? = some c) (hlo : lo ≤ k) (hno : ∀ v, lo ≤ v → v < k → x.cps.toList[v]? ≠ some c) : Txt.find3 x ⟨#[c]⟩ (lo : Int) = (k : Int) := by
  have hlen : k < x.length := by rw [← len_list]; exact (List.getElem?_eq_some_iff.mp hk).1
  have hfi : fromIndex x.length (lo : Int) = lo := by unfold fromIndex; split <;> omega
  rcases StrLaws.find3_spec x c (lo : Int) with ⟨_, hn⟩ | ⟨j, e, h1, h2, h3, h4⟩
  · exact absurd (StrLaws.getD_of_getElem? hk) (hn k (by rw [hfi]; exact hlo) hlen)
  · rw [hfi] at h1 h4
    rw [e]
    have hj : x.cps.toList[j]? = some c := StrLaws.getElem?_of_getD h2 h3
    rcases Nat.lt_trichotomy j k with h | h | h
    · exact absurd hj (hno j h1 h)
    · rw [h]
    · exact absurd (StrLaws.getD_of_getElem? hk) (h4 k hlo h)
theorem find_at (x : Str) {c k : Nat} (hk : x.cps.toList[k]? = some c) (hno : ∀ v, v < k → x.cps.toList[v]? ≠ some c) : Txt.find x ⟨#[c]⟩ = (k : Int) := by
  have := find3_at x (lo := 0) hk (Nat.zero_le _) (fun v _ h => hno v h)
  unfold Txt.find3 at this
  unfold Txt.find
  have hfi : fromIndex x.length ((0 : Nat) : Int) = 0 := by unfold fromIndex; simp
  rw [hfi] at this
  exact this
theorem item_at (x : Str) {k c : Nat} (hk : x.cps.toList[k]? = some c) : Txt.item x (k : Int) = ⟨#[c]⟩ := by
  have hlen : k < x.length := by rw [← len_list]; exact (List.getElem?_eq_some_iff.mp hk).1
  unfold Txt.item Txt.charAt seqIndex?
  have h1 : ¬ ((k : Int) < 0) := by omega
  simp only [h1, if_false]
  have h2 : (k : Int) < x.length := by omega
  simp [h2]
  have : x.cps[k]? = some c := by rw [← Array.getElem?_toList]; exact hk
  rw [this]; rfl
/-- a text cut at each sign c -/
def cut (c : Nat) : List Nat → List (List Nat)
  | [] => [[]]
  | d :: r => if d = c then [] :: cut c r else (match cut c r with | p :: ps => (d :: p) :: ps | [] => [[d]])
theorem cut_free {c : Nat} : ∀ {p : List Nat}, c ∉ p → cut c p = [p]
  | [], _ => rfl
  | d :: r, h => by
    have h1 : d ≠ c := fun e => h (e ▸ List.mem_cons_self)
    have h2 : c ∉ r := fun hm => h (List.mem_cons_of_mem _ hm)
    rw [cut, if_neg h1, cut_free h2]
theorem cut_cons {c : Nat} (q : List Nat) : ∀ {p : List Nat}, c ∉ p → cut c (p ++ c :: q) = p :: cut c q
  | [], _ => by simp [cut]
  | d :: r, h => by
    have h1 : d ≠ c := fun e => h (e ▸ List.mem_cons_self)
    have h2 : c ∉ r := fun hm => h (List.mem_cons_of_mem _ hm)
    rw [List.cons_append, cut, if_neg h1, cut_cons q h2]
theorem cut_join (c : Nat) : ∀ (ps : List Str), ps ≠ [] → (∀ p ∈ ps, c ∉ p.cps.toList) → cut c (Str.join ⟨#[c]⟩ ps).cps.toList = ps.map (·.cps.toList)
  | [], h, _ => absurd rfl h
  | [p], _, h => cut_free (h p (.head _))
  | p :: p' :: r, _, h => by
    show cut c (p ++ ⟨#[c]⟩ ++ Str.join ⟨#[c]⟩ (p' :: r)).cps.toList = _
    rw [app_list, app_list, List.append_assoc]
    show cut c (p.cps.toList ++ c :: (Str.join ⟨#[c]⟩ (p' :: r)).cps.toList) = _
    rw [cut_cons _ (h p (.head _)), cut_join c (p' :: r) (by simp) fun q hq => h q (.tail _ hq)]
    rfl
theorem map_ext {ps qs : List Str} (h : ps.map (·.cps.toList) = qs.map (·.cps.toList)) : ps = qs := by
  induction ps generalizing qs with
  | nil => cases qs with | nil => rfl | cons _ _ => cases h
  | cons p r ih => cases qs with
    | nil => cases h
    | cons q t =>
      injection h with h1 h2
      rw [str_ext h1, ih h2]
theorem split_ne_nil (x y : Str) : Txt.split x y ≠ [] := by
  unfold Txt.split
  split
  · simp
  · split
    · simp
    · unfold partsBetween; simp
theorem split_is (x : Str) (c : Nat) {qs : List Str} (h : cut c x.cps.toList = qs.map (·.cps.toList)) : Txt.split x ⟨#[c]⟩ = qs := by
  refine map_ext ?_
  rw [← h, ← cut_join c _ (split_ne_nil x _) (StrLaws.split_free x c), StrLaws.join_split]
end Mine
end
section
open PySem PySem.W PyProof.Rows PySem.Calls PySem.Builtin PySem.Builtin.Str
namespace Mine
def pfx : List Nat := [50, 50, 57, 32, 69, 110, 116, 101, 114, 105, 110, 103, 32, 40]
theorem mul3 (c : Nat) : Txt.mul ⟨#[c]⟩ 3 = ⟨#[c, c, c]⟩ := by
  unfold Txt.mul; simp [Str.length]
abbrev reply (a b : Str) : Str := Str.ofString "229 Entering (" ++ Txt.mul b 3 ++ a ++ b ++ Str.ofString ")"
theorem reply_list (a : Str) (c : Nat) : (reply a ⟨#[c]⟩).cps.toList = pfx ++ c :: c :: c :: (a.cps.toList ++ [c, 41]) := by
  unfold reply
  rw [app_list, app_list, app_list, app_list, mul3, show (Str.ofString "229 Entering (").cps.toList = pfx from by decide, show (Str.ofString ")").cps.toList = [41] from by decide]
  simp
structure ReplyFacts (resp a b : Str) (r : Int) : Prop where
  len : resp.length = a.length + 19
  hr : r = a.length + 18
  e1 : Txt.slice resp none (some 3) = Str.ofString "229"
  e2 : Txt.find resp (Str.ofString "(") = 13
  e3 : Txt.find3 resp (Str.ofString ")") (13 + 1) = r
  e4 : Txt.item resp (13 + 1) = b
  e5 : Txt.item resp (r - 1) = b
  e6 : Txt.split (Txt.slice resp (some (13 + 1)) (some r)) b = [Str.empty, Str.empty, Str.empty, a, Str.empty]
theorem reply_facts (a : Str) (c : Nat) (hc : c ≠ 41) (ha : c ∉ a.cps.toList) (ha' : 41 ∉ a.cps.toList) : ReplyFacts (reply a ⟨#[c]⟩) a ⟨#[c]⟩ (a.length + 18) := by
  have hR := reply_list a c
  generalize reply a ⟨#[c]⟩ = x at hR
  have hlen : x.length = a.length + 19 := by
    rw [← len_list, hR, ← len_list a]; simp [pfx]
  have hpl : pfx.length = 14 := rfl
  have e40 : Str.ofString "(" = ⟨#[40]⟩ := by decide
  have e41 : Str.ofString ")" = ⟨#[41]⟩ := by decide
  refine ⟨hlen, rfl, ?_, ?_, ?_, ?_, ?_, ?_⟩
  · refine str_ext ?_
    have := slice_nb x (b := 3) (by omega)
    refine this.trans ?_
    rw [hR]; simp [pfx]; decide
  · rw [e40]
    refine find_at x (k := 13) (by rw [hR]; rfl) fun v hv => ?_
    rw [hR, List.getElem?_append_left (by rw [hpl]; omega)]
    have : ∀ v < 13, pfx[v]? ≠ some 40 := by decide
    exact this v hv
  · rw [e41]
    have h1 : x.cps.toList[(a.length + 18 : Nat)]? = some 41 := by
      rw [hR, List.getElem?_append_right (by rw [hpl]; omega)]
      have : a.length + 18 - pfx.length = a.length + 4 := by rw [hpl]; omega
      rw [this, ← len_list a]
      simp
    refine find3_at x (lo := 14) (k := a.length + 18) h1 (by omega) fun v h2 h3 => ?_
    have hle : pfx.length ≤ v := by rw [hpl]; exact h2
    rw [hR, List.getElem?_append_right hle]
    intro he
    have hm := List.mem_of_getElem? he
    rw [hpl] at he
    match hv : v - 14 with
    | 0 => rw [hv] at he; simp at he; exact hc he
    | 1 => rw [hv] at he; simp at he; exact hc he
    | 2 => rw [hv] at he; simp at he; exact hc he
    | j + 3 =>
      rw [hv] at he
      simp only [List.getElem?_cons_succ] at he
      by_cases hj : j < a.cps.toList.length
      · rw [List.getElem?_append_left hj] at he
        exact ha' (List.mem_of_getElem? he)
      · rw [List.getElem?_append_right (by omega)] at he
        have hj2 : j ≤ a.length := by clear he hm; omega
        have : j - a.cps.toList.length = 0 := by rw [len_list]; omega
        rw [this] at he
        simp at he
        exact hc he
  · exact item_at x (k := 14) (by rw [hR]; rfl)
  · have e : ((a.length : Int) + 18 - 1) = ((a.length + 17 : Nat) : Int) := by omega
    rw [e]
    refine item_at x ?_
    rw [hR, List.getElem?_append_right (by rw [hpl]; omega)]
    have : a.length + 17 - pfx.length = a.length + 3 := by rw [hpl]; omega
    rw [this, ← len_list a]
    simp
  · refine split_is _ c ?_
    have e : ((a.length : Int) + 18) = ((a.length + 18 : Nat) : Int) := by omega
    rw [e]
    have := slice_ab x (a := 14) (b := a.length + 18) (by omega) (by omega)
    have h2 : (Txt.slice x (some (13 + 1)) (some ((a.length + 18 : Nat) : Int))).cps.toList = c :: c :: c :: (a.cps.toList ++ [c]) := by
      refine this.trans ?_
      rw [hR]
      have : List.drop 14 (pfx ++ c :: c :: c :: (a.cps.toList ++ [c, 41])) = c :: c :: c :: (a.cps.toList ++ [c, 41]) := by simp [pfx]
      rw [this]
      have h3 : a.length + 18 - 14 = (c :: c :: c :: (a.cps.toList ++ [c])).length := by simp only [List.length_cons, List.length_append, List.length_nil, len_list]; omega
      have h4 : c :: c :: c :: (a.cps.toList ++ [c, 41]) = (c :: c :: c :: (a.cps.toList ++ [c])) ++ [41] := by simp
      rw [h4, h3, List.take_left]
    rw [h2]
    have h3 : a.cps.toList ++ [c] = a.cps.toList ++ c :: [] := rfl
    simp only [cut, if_true]
    rw [h3, cut_cons _ ha]
    simp [cut]
    rfl
end Mine
end
section
open PySem PySem.W PyProof.Rows PySem.Calls PySem.Builtin PySem.Builtin.Str
namespace Mine
def numS (c : Int) : Str := Str.ofString (toString (100 + (c.fdiv 7).fmod 900))
def figS (c : Int) : Str := Txt.slice (Txt.mul (numS c) 3) none (some (1 + c.fmod 7))
def wordS (k : Int) (c : Int) : Str := Txt.mul (Str.ofString "0") (if 3 + k.fmod 2 - ((figS c).length : Int) > 0 then 3 + k.fmod 2 - ((figS c).length : Int) else 0) ++ figS c
theorem fmod_range (a : Int) {b : Int} (hb : 0 < b) : 0 ≤ a.fmod b ∧ a.fmod b < b := ⟨Int.fmod_nonneg_of_pos a hb, Int.fmod_lt_of_pos a hb⟩
theorem num_list (c : Int) : ∃ n : Nat, n < 900 ∧ (numS c).cps.toList = (Nat.toDigits 10 (100 + n)).map Char.toNat := by
  obtain ⟨h0, h1⟩ := fmod_range (c.fdiv 7) (b := 900) (by decide)
  refine ⟨((c.fdiv 7).fmod 900).toNat, by omega, ?_⟩
  unfold numS
  have : 100 + (c.fdiv 7).fmod 900 = ((100 + ((c.fdiv 7).fmod 900).toNat : Nat) : Int) := by omega
  rw [this]
  exact KIN.signs_num _
def good3 (l : List Nat) : Bool := match l with
  | [a, b, c] => 49 ≤ a && a ≤ 57 && 48 ≤ b && b ≤ 57 && 48 ≤ c && c ≤ 57
  | _ => false
theorem good3_all : ∀ n < 900, good3 ((Nat.toDigits 10 (100 + n)).map Char.toNat) = true := by decide +kernel
theorem num_shape (c : Int) : ∃ x y z, (numS c).cps.toList = [x, y, z] ∧ 49 ≤ x ∧ x ≤ 57 ∧ 48 ≤ y ∧ y ≤ 57 ∧ 48 ≤ z ∧ z ≤ 57 := by
  obtain ⟨n, hn, e⟩ := num_list c
  have h := good3_all n hn
  rw [← e] at h
  unfold good3 at h
  split at h
  · rename_i x y z e'
    simp only [Bool.and_eq_true, decide_eq_true_eq] at h
    exact ⟨x, y, z, e', by omega⟩
  · cases h
theorem num_len (c : Int) : (numS c).length = 3 := by
  obtain ⟨x, y, z, e, _⟩ := num_shape c
  rw [← len_list, e]; rfl
theorem mul_list (x : Str) (n : Nat) : (Txt.mul x (n : Int)).cps.toList = (List.replicate n x.cps.toList).flatten := by
  unfold Txt.mul
  by_cases h0 : (n : Int) < 1
  · rw [if_pos h0]
    have : n = 0 := by omega
    subst this; rfl
  · rw [if_neg h0]
    by_cases h1 : ((n : Int) == 1 || x.length == 0) = true
    · rw [if_pos h1]
      rcases Bool.or_eq_true_iff.mp h1 with h | h
      · have : n = 1 := by have := beq_iff_eq.mp h; omega
        subst this; simp
      · have hx : x.cps.toList = [] := by
          have := beq_iff_eq.mp h
          exact List.eq_nil_of_length_eq_zero (by rw [len_list]; exact this)
        rw [hx]; simp
    · rw [if_neg h1]
      show (List.foldl (· ++ ·) #[] (List.replicate (n : Int).toNat x.cps)).toList = _
      rw [Int.toNat_natCast]
      have : ∀ (k : Nat) (a : Array Nat), (List.foldl (· ++ ·) a (List.replicate k x.cps)).toList = a.toList ++ (List.replicate k x.cps.toList).flatten := by
        intro k
        induction k with
        | zero => intro a; simp
        | succ k ih => intro a; simp [List.replicate_succ, ih, List.append_assoc]
      simpa using this n #[]
theorem mul_num_len (c : Int) : (Txt.mul (numS c) 3).length = 9 := by
  obtain ⟨x, y, z, e, _⟩ := num_shape c
  have := mul_list (numS c) 3
  rw [← len_list]
  rw [show (Txt.mul (numS c) 3).cps.toList = _ from this, e]; rfl
theorem fig_list (c : Int) : ∃ x y z, (figS c).cps.toList = [x, y, z, x, y, z, x].take (1 + (c.fmod 7).toNat) ∧ 49 ≤ x ∧ x ≤ 57 ∧ 48 ≤ y ∧ y ≤ 57 ∧ 48 ≤ z ∧ z ≤ 57 := by
  obtain ⟨x, y, z, e, h⟩ := num_shape c
  refine ⟨x, y, z, ?_, h⟩
  obtain ⟨h0, h1⟩ := fmod_range c (b := 7) (by decide)
  have hj : 1 + c.fmod 7 = ((1 + (c.fmod 7).toNat : Nat) : Int) := by omega
  have h9 : (Txt.mul (numS c) 3).cps.toList = [x, y, z, x, y, z, x, y, z] := by
    have := mul_list (numS c) 3
    rw [show (Txt.mul (numS c) 3).cps.toList = _ from this, e]; rfl
  unfold figS
  rw [hj, slice_nb _ (by rw [mul_num_len]; omega), h9]
  have : ∀ j < 7, ([x, y, z, x, y, z, x, y, z] : List Nat).take (1 + j) = [x, y, z, x, y, z, x].take (1 + j) := by
    intro j hj
    match j, hj with
    | 0, _ => rfl
    | 1, _ => rfl
    | 2, _ => rfl
    | 3, _ => rfl
    | 4, _ => rfl
    | 5, _ => rfl
    | 6, _ => rfl
  exact this _ (by omega)
theorem fig_len (c : Int) : (figS c).length = 1 + (c.fmod 7).toNat := by
  obtain ⟨x, y, z, e, _⟩ := fig_list c
  obtain ⟨h0, h1⟩ := fmod_range c (b := 7) (by decide)
  rw [← len_list, e, List.length_take]
  simp; omega
theorem fig_len_le (c : Int) : 1 ≤ (figS c).length ∧ (figS c).length ≤ 7 := by
  obtain ⟨h0, h1⟩ := fmod_range c (b := 7) (by decide)
  rw [fig_len]; omega
end Mine
end
section
open PySem PySem.W PyProof.Rows PySem.Calls
namespace Mine.Fl
set_option maxRecDepth 100000
theorem owner_filter : Manifest.owners.lookup (String.ofList ['r', 'e', 't', 'l', 'i', 'f'].reverse) = some Manifest.sig_filter := by kernel_rfl
theorem slot_iter : Slot "filter" "__iter__" "filter.__iter__" :=
  .of (owner := "filter") (n := "__iter__") (by rw [typeLookup_type, builtinLookup_eq_fast]; kernel_rfl) (by decide +kernel) (by decide +kernel) (by decide +kernel)
    (by first | exact .inl (by decide +kernel) | exact .inr (by decide +kernel)) (by rw [isSubtype_type]; kernel_rfl)
theorem slot_next : Slot "filter" "__next__" "filter.__next__" :=
  .of (owner := "filter") (n := "__next__") (by rw [typeLookup_type, builtinLookup_eq_fast]; kernel_rfl) (by decide +kernel) (by decide +kernel) (by decide +kernel)
    (by first | exact .inl (by decide +kernel) | exact .inr (by decide +kernel)) (by rw [isSubtype_type]; kernel_rfl)
theorem slot_init : Slot "filter" "__init__" "object.__init__" :=
  .of (owner := "object") (n := "__init__") (by rw [typeLookup_type, builtinLookup_eq_fast]; kernel_rfl) (by decide +kernel) (by decide +kernel) (by decide +kernel)
    (by first | exact .inl (by decide +kernel) | exact .inr (by decide +kernel)) (by rw [isSubtype_type]; kernel_rfl)
theorem args_next (a : Value) : argsOk "filter.__next__" ⟨[a], []⟩ := by
  unfold argsOk; rw [signature?_of (id := "filter.__next__") (n := ['_', '_', 't', 'x', 'e', 'n', '_', '_']) (o := ['r', 'e', 't', 'l', 'i', 'f']) (by kernel_rfl) owner_filter]; kernel_rfl
theorem args_iter (a : Value) : argsOk "filter.__iter__" ⟨[a], []⟩ := by
  unfold argsOk; rw [signature?_of (id := "filter.__iter__") (n := ['_', '_', 'r', 'e', 't', 'i', '_', '_']) (o := ['r', 'e', 't', 'l', 'i', 'f']) (by kernel_rfl) owner_filter]; kernel_rfl
theorem entry_next : entryFor table "filter.__next__" = some Builtin.«filter.__next__» := entryFor_of_tree (by kernel_rfl)
theorem entry_new : entryFor table "filter.__new__" = some Builtin.«filter.__new__» := entryFor_of_tree (by kernel_rfl)
theorem entry_iter : entryFor table "filter.__iter__" = some Builtin.«dict_keyiterator.__iter__» :=
  entryFor_alias (id' := "dict_keyiterator.__iter__") (by kernel_rfl) (by first | rfl | decide +kernel | (unfold String.splitOn; simp +decide [String.splitOnAux])) (by decide +kernel) (by kernel_rfl)
theorem mro : mroOf (.type "filter") = pure [.type "filter", .type "object"] := by rw [mroOf_type]; kernel_rfl
theorem lookup_new : typeLookup (.type "filter") "__new__" = pure (some (.builtin "filter.__new__")) := by rw [typeLookup_type, builtinLookup_eq_fast]; kernel_rfl
theorem called : TypeCalled "filter" "filter.__new__" "object.__init__" :=
  ⟨by decide +kernel, by decide +kernel, ⟨_, _, mro⟩, madeBy_type mro lookup_new (by decide +kernel), by decide +kernel, by rw [isSubtype_type]; kernel_rfl, slot_init⟩
theorem typeCall_2 (a b : Value) : checkTypeCall "filter" ⟨[a, b], []⟩ = pure () := by kernel_rfl
theorem newCall_2 (a b : Value) : checkBuiltinCall "filter.__new__" ⟨[.type "filter", a, b], []⟩ = pure () := by kernel_rfl
theorem initArgs_2 (o a b : Value) : argsOk "object.__init__" ⟨[o, a, b], []⟩ := by
  unfold argsOk; kernel_rfl
theorem plain_next : plainId "filter.__next__" = true := by decide +kernel
theorem sub : isSubtype (.type "filter") (.type "filter") = pure true := by rw [isSubtype_type]; kernel_rfl
end Mine.Fl
end
section
open PySem PySem.W PyProof.Rows PySem.Calls
namespace Mine.Fl
set_option maxRecDepth 100000
section
variable {prog : Program} {w : World} {K : Type} [DecidableEq K] {knd : KeyKind prog w K} {A : Around} {E : Value → Shared → Prop} {s : Shared}

abbrev IsFilter (h : Heap) (f it : Addr) : Prop := h.get? f = some { cls := .type "filter", dict := none, data := .fields #[.none, .ref it], slots := #[] }

theorem meets_new {v d : Addr} {kvs : List (K × Value)} {ep : Nat} :
    MeetsIn prog w (Builtin.«filter.__new__» ⟨[.type "filter", .none, .ref v], []⟩) (fun _ R s => s.heap.IsValuesView v d ∧ s.heap.DictAt knd d kvs ep ∧
      R (.ok (.ret (.ref (s.heap.objs.size + 1)))) { s with heap := (s.heap.push { cls := .type "dict_valueiterator", data := .fields #[.ref d, .int 0 0, .int kvs.length 0, .int ep 0] }).push { cls := .type "filter", data := .fields #[.none, .ref s.heap.objs.size] } }) :=
  .of_wp fun A R s ⟨hv, hm, h⟩ => by
    have hsub := sub
    have hi : ∀ (E : Value → Shared → Prop) (Q : Value → Shared → Prop), Q (.ref s.heap.objs.size) { s with heap := s.heap.push { cls := .type "dict_valueiterator", data := .fields #[.ref d, .int 0 0, .int kvs.length 0, .int ep 0] } } → wpAny (model prog w) A.in1 (pyIter (.ref v)) Q E s :=
      fun E Q q => wpAny_pyIter_values hv hm q
    obtain ⟨hp, g, dr, tk, os⟩ := s
    wp_walk using hi
    refine ⟨_, rfl, ?_⟩
    have hz : (hp.push { cls := .type "dict_valueiterator", data := .fields #[.ref d, .int 0 0, .int kvs.length 0, .int ep 0] }).objs.size = hp.objs.size + 1 := Heap.size_push ..
    rw [hz]
    exact h

theorem call_filter {v d : Addr} {kvs : List (K × Value)} {ep : Nat} {Q : Value → Shared → Prop} (hv : s.heap.IsValuesView v d) (hm : s.heap.DictAt knd d kvs ep)
    (h : ∀ h', IsFilter h' (s.heap.objs.size + 1) s.heap.objs.size → h'.IsValIter s.heap.objs.size d 0 kvs.length ep → h'.objs.size = s.heap.objs.size + 2 → (∀ b o, s.heap.get? b = some o → h'.get? b = some o) →
      Q (.ref (s.heap.objs.size + 1)) { s with heap := h' }) :
    wpAny (model prog w) A (call (.type "filter") [.none, .ref v]) Q E s := by
  refine callType_newIn called (by decide) (typeCall_2 _ _) (newCall_2 _ _) (fun obj => initArgs_2 obj _ _) entry_new (meets_new (knd := knd)) ⟨hv, hm, ?_⟩
  have hz : (s.heap.push { cls := .type "dict_valueiterator", data := .fields #[.ref d, .int 0 0, .int kvs.length 0, .int ep 0] }).objs.size = s.heap.objs.size + 1 := Heap.size_push ..
  have hf : IsFilter ((s.heap.push { cls := .type "dict_valueiterator", data := .fields #[.ref d, .int 0 0, .int kvs.length 0, .int ep 0] }).push { cls := .type "filter", data := .fields #[.none, .ref s.heap.objs.size] }) (s.heap.objs.size + 1) s.heap.objs.size := by
    have := Heap.get?_push_size (s.heap.push { cls := .type "dict_valueiterator", data := .fields #[.ref d, .int 0 0, .int kvs.length 0, .int ep 0] }) (o := { cls := .type "filter", data := .fields #[.none, .ref s.heap.objs.size] }) rfl
    rw [hz] at this; exact this
  exact ⟨⟨_, hf, rfl⟩, h _ hf ⟨_, Heap.get?_push_of_some _ (Heap.get?_push_size _ rfl), rfl, rfl⟩ (by rw [Heap.size_push, hz]) fun b o y => Heap.get?_push_of_some _ (Heap.get?_push_of_some _ y)⟩
end
end Mine.Fl
end
section
open PySem PySem.W PyProof.Rows PySem.Calls
namespace Mine.Fl
set_option maxRecDepth 100000
section
variable {prog : Program} {w : World} {K : Type} [DecidableEq K] {knd : KeyKind prog w K} {A : Around} {E : Value → Shared → Prop} {s : Shared}
/-- one draw from the iterator over a dict's values: an item -/
theorem draw_item {it d : Addr} {i ep : Nat} {kvs : List (K × Value)} {k : K} {v : Value} {Q : Option Value → Shared → Prop} (hit : s.heap.IsValIter it d i kvs.length ep)
    (hm : s.heap.DictAt knd d kvs ep) (hx : kvs[i]? = some (k, v))
    (hQ : ∀ h', h'.IsValIter it d (i + 1) kvs.length ep → Heap.SameBut it s.heap h' → Q (some v) { s with heap := h' }) :
    wpAny (model prog w) A (callSpecial? (.ref it) "__next__") Q E s := by
  obtain ⟨oi, hoi, hci, hdi⟩ := id hit
  obtain ⟨od, es, hod, hcd, hdd, hke, hpr, hnd⟩ := id hm
  have hT := hit.typeIs
  have hn : es.size = kvs.length := by rw [← hpr.length, Array.length_toList]
  have hi : i < kvs.length := (List.getElem?_eq_some_iff.mp hx).1
  have hi' : i < es.size := hn ▸ hi
  have hv : es[i].val = v := (hpr.get? (e := es[i]) (by simp [hi']) hx).2
  refine wpAny_callSpecial?_slot (name := Str.ofString "__next__") hT F.slot_dict_valueiterator_next
    (wpAny_call_entry F.slot_dict_valueiterator_next hT F.entry_dict_valueiterator_next ?_ (F.args_dict_valueiterator_next_1 _))
  refine wpAny_bind (wpAny_pure (wpAny_bind (wpAny_bind (wpAny_bind (wpAny_typeNameOfWhole_valiter hT (wpAny_pure (wpAny_bind (wpAny_fieldsOf hoi hdi ?_))))))))
  simp only [show Builtin.Dict_items.ownsTuple "dict_valueiterator" = false from by decide, Bool.false_eq_true, if_false]
  show wpAny _ _ (if (Value.ref d == Value.none) = true then _ else _) _ _ s
  rw [if_neg (show ¬ ((Value.ref d == Value.none) = true) from Bool.false_ne_true)]
  refine wpAny_bind (wpAny_pure (wpAny_bind (wpAny_dictEntries hod hdd ?_)))
  rw [if_neg (by rw [hn]; simp)]
  refine wpAny_bind (wpAny_pure (wpAny_bind (wpAny_dictEpoch hod hdd ?_)))
  rw [if_neg (by simp)]
  refine wpAny_pure ?_
  simp only [show ¬ ((i : Int) < 0) from by omega, if_false, Int.toNat_natCast, Array.getElem?_eq_getElem hi']
  refine wpAny_bind (wpAny_bind (wpAny_typeNameOfWhole_valiter hT (wpAny_pure (wpAny_bind (wpAny_isOneOf_valiter hT ?_)))))
  show wpAny _ _ (setField (.ref it) 1 (rawInt ((i : Int) + 1)) >>= _) _ _ s
  refine wpAny_bind (wpAny_setField hoi hdi (by simp) ?_)
  have hit' : (s.heap.update it (Obj.mapFields (·.setIfInBounds 1 (rawInt ((i : Int) + 1))))).IsValIter it d (i + 1) kvs.length ep :=
    ⟨_, Heap.get?_update_self _ hoi (Obj.isFreed_of_fields (Obj.data_mapFields hdi _)), (Obj.cls_mapFields ..).trans hci, by rw [Obj.data_mapFields hdi]; simp [rawInt]⟩
  have hT' := Heap.IsValIter.typeIs (s := { s with heap := s.heap.update it (Obj.mapFields (·.setIfInBounds 1 (rawInt ((i : Int) + 1)))) }) hit'
  refine wpAny_bind (wpAny_holding (wpAny_bind (wpAny_isOneOf_valiter hT' (wpAny_bind (wpAny_isOneOf_valiter hT' ?_)))))
  show wpAny _ _ (pure es[i].val) _ _ _
  exact wpAny_pure (wpAny_pure ⟨_, rfl, hv ▸ hQ _ hit' (Heap.SameBut.update ..)⟩)

/-- one draw from it behind its last item -/
theorem draw_end {it d : Addr} {i ep : Nat} {kvs : List (K × Value)} {Q : Option Value → Shared → Prop} (hh : A.handled = none) (hit : s.heap.IsValIter it d i kvs.length ep)
    (hm : s.heap.DictAt knd d kvs ep) (hx : kvs[i]? = none)
    (hE : ∀ h' e, Heap.ExtBut it s.heap h' → (∃ o, h'.get? e = some o ∧ o.cls = .type "StopIteration") → E (.ref e) { s with heap := h' }) :
    wpAny (model prog w) A (callSpecial? (.ref it) "__next__") Q E s := by
  obtain ⟨oi, hoi, hci, hdi⟩ := id hit
  obtain ⟨od, es, hod, hcd, hdd, hke, hpr, hnd⟩ := id hm
  have hT := hit.typeIs
  have hn : es.size = kvs.length := by rw [← hpr.length, Array.length_toList]
  have hge : es.size ≤ i := by rw [hn]; simpa using hx
  refine wpAny_callSpecial?_slot (name := Str.ofString "__next__") hT F.slot_dict_valueiterator_next
    (wpAny_call_entry F.slot_dict_valueiterator_next hT F.entry_dict_valueiterator_next ?_ (F.args_dict_valueiterator_next_1 _))
  refine wpAny_bind (wpAny_pure (wpAny_bind (wpAny_bind (wpAny_bind (wpAny_typeNameOfWhole_valiter hT (wpAny_pure (wpAny_bind (wpAny_fieldsOf hoi hdi ?_))))))))
  simp only [show Builtin.Dict_items.ownsTuple "dict_valueiterator" = false from by decide, Bool.false_eq_true, if_false]
  show wpAny _ _ (if (Value.ref d == Value.none) = true then _ else _) _ _ s
  rw [if_neg (show ¬ ((Value.ref d == Value.none) = true) from Bool.false_ne_true)]
  refine wpAny_bind (wpAny_pure (wpAny_bind (wpAny_dictEntries hod hdd ?_)))
  rw [if_neg (by rw [hn]; simp)]
  refine wpAny_bind (wpAny_pure (wpAny_bind (wpAny_dictEpoch hod hdd ?_)))
  rw [if_neg (by simp)]
  refine wpAny_pure ?_
  simp only [show ¬ ((i : Int) < 0) from by omega, if_false, Int.toNat_natCast, Array.getElem?_eq_none hge]
  refine wpAny_bind (wpAny_bind (wpAny_typeNameOfWhole_valiter hT (wpAny_pure ?_)))
  show wpAny _ _ (setField (.ref it) 0 .none >>= _) _ _ s
  refine wpAny_bind (wpAny_setField hoi hdi (by simp) ?_)
  show wpAny _ _ (newExc (.type "StopIteration") [] >>= _) _ _ _
  refine wpAny_bind ?_
  simp only [newExc, newTuple]
  refine wpAny_bind (wpAny_newObj_type ?_ (by size_fits))
  refine wpAny_bind (m := firstArgMember _ _) (wpAny_of_eq (a := Value.none) (by first | rfl | (simp only [firstArgMember]; rfl)) ?_)
  refine wpAny_newObj_type ?_ (by size_fits)
  simp only [raiseNew]
  refine wpAny_bind (wpAny_handled ?_)
  rw [show A.in1.handled = none from hh]
  refine wpAny_bind (wpAny_pure (wpAny_throw ?_))
  exact hE _ _ (((Heap.SameBut.update ..).extBut.push _).push _) ⟨_, Heap.get?_push_size _ rfl, rfl⟩
end
end Mine.Fl
end
section
open PySem PySem.W PyProof.Rows PySem.Calls
namespace Mine.Fl
set_option maxRecDepth 100000
/-- what filter(None, ..) lets through, of ints and None -/
def keepV : Value → Bool
  | .int n _ => n != 0
  | _ => false
def Small (v : Value) : Prop := (∃ n t, v = .int n t) ∨ v = .none
section
variable {prog : Program} {w : World} {K : Type} [DecidableEq K] {knd : KeyKind prog w K} {A : Around} {E : Value → Shared → Prop} {s : Shared}
theorem truthy_small {v : Value} {Q : Bool → Shared → Prop} (hv : Small v) (h : Q (keepV v) s) : wpAny (model prog w) A (truthy v) Q E s := by
  rcases hv with ⟨n, t, rfl⟩ | rfl
  · exact P.truthy_int h
  · exact fun _ _ _ => h

theorem filter_code {f it d : Addr} {ep : Nat} {kvs : List (K × Value)} {R : Result → Shared → Prop} (hh : A.handled = none) (hfi : f ≠ it) (hdi : d ≠ it) (hsm : ∀ p ∈ kvs, Small p.2) :
    ∀ (rest : List (K × Value)) (i : Nat) (s : Shared), kvs.drop i = rest → IsFilter s.heap f it → s.heap.IsValIter it d i kvs.length ep → s.heap.DictAt knd d kvs ep →
      (∀ j p h', kvs[j]? = some p → keepV p.2 = true → i ≤ j → (∀ l q, i ≤ l → l < j → kvs[l]? = some q → keepV q.2 = false) → h'.IsValIter it d (j + 1) kvs.length ep → Heap.SameBut it s.heap h' → R (.ok (.ret p.2)) { s with heap := h' }) →
      ((∀ l q, i ≤ l → kvs[l]? = some q → keepV q.2 = false) → ∀ h' e, Heap.ExtBut it s.heap h' → (∃ o, h'.get? e = some o ∧ o.cls = .type "StopIteration") → R (.error (.ref e)) { s with heap := h' }) →
      codeAny (model prog w) A (.builtin "filter.__next__" ⟨[.ref f], []⟩) R s
  | [], i, s, hr, hF, hit, hm, hok, her => by
    have hlen : kvs.length ≤ i := by rw [← List.drop_eq_nil_iff]; exact hr
    refine codeAny_builtin entry_next ?_
    rw [Around.under_plainId plain_next _]
    show wpAny _ A.in1 (field (.ref f) 0 >>= _) _ _ s
    refine wpAny_bind (wpAny_field hF rfl (x := .none) rfl ?_)
    show wpAny _ A.in1 (field (.ref f) 1 >>= _) _ _ s
    refine wpAny_bind (wpAny_field hF rfl (x := .ref it) rfl ?_)
    refine wpAny_bind (draw_end hh hit hm (List.getElem?_eq_none hlen) fun h' e hx hs => ?_)
    exact her (fun l q hl hq => by rw [List.getElem?_eq_none (Nat.le_trans hlen hl)] at hq; cases hq) h' e hx hs
  | p :: rest, i, s, hr, hF, hit, hm, hok, her => by
    have hp : kvs[i]? = some p := by
      have : (kvs.drop i)[0]? = some p := by rw [hr]; rfl
      simpa using this
    have hr' : kvs.drop (i + 1) = rest := by
      have : (kvs.drop i).drop 1 = rest := by rw [hr]; rfl
      rw [List.drop_drop] at this
      exact this
    refine codeAny_builtin entry_next ?_
    rw [Around.under_plainId plain_next _]
    show wpAny _ A.in1 (field (.ref f) 0 >>= _) _ _ s
    refine wpAny_bind (wpAny_field hF rfl (x := .none) rfl ?_)
    show wpAny _ A.in1 (field (.ref f) 1 >>= _) _ _ s
    refine wpAny_bind (wpAny_field hF rfl (x := .ref it) rfl ?_)
    refine wpAny_bind (draw_item (k := p.1) (v := p.2) hit hm hp fun h' hit' hs' => ?_)
    show wpAny _ A.in1 (holding [p.2] (rule "filter.__next__.own-truth" >>= fun _ => truthy p.2) >>= _) _ _ _
    refine wpAny_bind (wpAny_holding (wpAny_bind (wpAny_rule (truthy_small (hsm p (List.mem_of_getElem? hp)) ?_))))
    cases hk : keepV p.2 with
    | true =>
      refine wpAny_pure ?_
      exact hok i p h' hp hk (Nat.le_refl _) (fun l q h1 h2 => absurd h2 (by omega)) hit' hs'
    | false =>
      refine wpAny_pure ⟨plainId_quiet plain_next _, filter_code hh hfi hdi hsm rest (i + 1) _ hr' ((hs'.2 f hfi).trans hF) hit' (hm.extBut hs'.extBut hdi) (fun j q h'' hq hkq hij hno hi'' hs'' => ?_) fun hno h'' e hx hs => ?_⟩
      · refine hok j q h'' hq hkq (by omega) (fun l r h1 h2 hr => ?_) hi'' (hs'.trans hs'')
        rcases Nat.eq_or_lt_of_le h1 with rfl | h1
        · rw [hp] at hr; cases hr; exact hk
        · exact hno l r h1 h2 hr
      · refine her (fun l r h1 hr => ?_) h'' e (fun b o hb e => hx b o hb (hs'.extBut b o hb e)) hs
        rcases Nat.eq_or_lt_of_le h1 with rfl | h1
        · rw [hp] at hr; cases hr; exact hk
        · exact hno l r h1 hr
end
end Mine.Fl
end
section
open PySem PySem.W PyProof.Rows PySem.Calls
namespace Mine.Fl
set_option maxRecDepth 100000
theorem take_snoc {α : Type} {l : List α} {j : Nat} {p : α} (h : l[j]? = some p) : l.take (j + 1) = l.take j ++ [p] := by
  rw [List.take_add_one, h]; rfl
theorem filter_none {α : Type} {q : α → Bool} {l : List α} {i : Nat} : ∀ (n : Nat), (∀ m r, i ≤ m → m < i + n → l[m]? = some r → q r = false) → (l.take (i + n)).filter q = (l.take i).filter q
  | 0, _ => rfl
  | n + 1, h => by
    have ih := filter_none n fun m r h1 h2 => h m r h1 (by omega)
    cases hr : l[i + n]? with
    | none =>
      rw [show i + (n + 1) = i + n + 1 from rfl, List.take_add_one, hr]
      simpa using ih
    | some r =>
      rw [show i + (n + 1) = i + n + 1 from rfl, take_snoc hr, List.filter_append, ih]
      simp [h (i + n) r (by omega) (by omega) hr]
theorem filter_at {α : Type} {q : α → Bool} {l : List α} {j : Nat} {p : α} (h : l[j]? = some p) (hq : q p = true) : (l.filter q)[((l.take j).filter q).length]? = some p := by
  have e : l = l.take j ++ p :: l.drop (j + 1) := by
    have := List.getElem?_eq_some_iff.mp h
    obtain ⟨hj, rfl⟩ := this
    rw [List.getElem_cons_drop, List.take_append_drop]
  have : l.filter q = (l.take j).filter q ++ p :: (l.drop (j + 1)).filter q := by
    conv => lhs; rw [e]
    rw [List.filter_append, List.filter_cons, if_pos hq]
  rw [this, List.getElem?_append_right (Nat.le_refl _)]
  simp
section
variable {prog : Program} {w : World} {K : Type} [DecidableEq K] {knd : KeyKind prog w K} {A : Around} {E : Value → Shared → Prop} {s : Shared}
theorem typeIs {f it : Addr} (h : IsFilter s.heap f it) : s.TypeIs (.ref f) "filter" := ⟨_, h, rfl⟩
theorem iter_self {f it : Addr} {Q : Value → Shared → Prop} (hF : IsFilter s.heap f it) (h : Q (.ref f) s) : wpAny (model prog w) A (pyIter (.ref f)) Q E s := by
  refine wpAny_pyIter_slot (typeIs hF) slot_iter (wpAny_call_entry slot_iter (typeIs hF) entry_iter ?_ (args_iter _))
  show wpAny _ _ (ret (.ref f)) _ _ s
  exact wpAny_pure ⟨_, rfl, "filter", _, typeIs hF, slot_next.lookup, h⟩

theorem walks (hh : A.handled = none) {f it d : Addr} {ep : Nat} {kvs : List (K × Value)} (hfi : f ≠ it) (hdi : d ≠ it) (hsm : ∀ p ∈ kvs, Small p.2) :
    Walks prog w A f [f, it, d] [it] (kvs.filter fun p => keepV p.2).length (fun j v => ∃ p, (kvs.filter fun p => keepV p.2)[j]? = some p ∧ p.2 = v)
      (fun j h => IsFilter h f it ∧ h.DictAt knd d kvs ep ∧ ∃ i, h.IsValIter it d i kvs.length ep ∧ ((kvs.take i).filter fun p => keepV p.2).length = j) where
  sub := fun b hb => by rw [List.mem_singleton.mp hb]; simp
  frame := fun j h h' ⟨h1, h2, i, h3, h4⟩ hk => ⟨hk f (by simp) _ h1, h2.at' fun o e => hk d (by simp) o e, i, h3.at fun o e => hk it (by simp) o e, h4⟩
  item := fun j s Q E hj ⟨h1, h2, i, h3, h4⟩ hQ => by
    unfold pyNext
    refine wpAny_bind (wpAny_attempt (wpAny_callSpecial?_slot (name := Str.ofString "__next__") (typeIs h1) slot_next (wpAny_call (codeAny_call_builtin_code (plainId_quiet plain_next _)
      (slot_next.check _ _ _ _ _ _ _ _ (typeIs h1) (args_next _) ?_)))))
    refine filter_code (A := A) hh hfi hdi hsm _ i s rfl h1 h3 h2 (fun l p h' hp hkp hil hno hit' hs' => ?_) fun hno => ?_
    · have e1 : (kvs.take l).filter (fun p => keepV p.2) = (kvs.take i).filter fun p => keepV p.2 := by
        obtain ⟨n, rfl⟩ : ∃ n, l = i + n := ⟨l - i, by omega⟩
        exact filter_none n fun m r a b c => hno m r a b c
      refine wpAny_pure (hQ p.2 h' s.toks ⟨p, ?_, rfl⟩ ⟨(hs'.2 f hfi).trans h1, h2.extBut hs'.extBut hdi, l + 1, hit', ?_⟩ fun b o hb e => hs'.extBut b o (fun q => hb (by simp [q])) e)
      · have := filter_at (q := fun p : K × Value => keepV p.2) hp hkp
        rw [e1, h4] at this
        exact this
      · rw [take_snoc hp, List.filter_append, e1, List.length_append, h4]
        simp [hkp]
    · exfalso
      have : (kvs.filter fun p => keepV p.2).length = j := by
        have := filter_none (q := fun p : K × Value => keepV p.2) (l := kvs) (i := i) kvs.length fun m r a _ c => hno m r a c
        rw [List.take_of_length_le (by omega)] at this
        rw [this, h4]
      omega
  done := fun s Q E ⟨h1, h2, i, h3, h4⟩ hQ => by
    unfold pyNext
    refine wpAny_bind (wpAny_attempt (wpAny_callSpecial?_slot (name := Str.ofString "__next__") (typeIs h1) slot_next (wpAny_call (codeAny_call_builtin_code (plainId_quiet plain_next _)
      (slot_next.check _ _ _ _ _ _ _ _ (typeIs h1) (args_next _) ?_)))))
    refine filter_code (A := A) hh hfi hdi hsm _ i s rfl h1 h3 h2 (fun l p h' hp hkp hil hno hit' hs' => ?_) fun hno h' e hx hs => ?_
    · exfalso
      have e1 : (kvs.take l).filter (fun p => keepV p.2) = (kvs.take i).filter fun p => keepV p.2 := by
        obtain ⟨n, rfl⟩ : ∃ n, l = i + n := ⟨l - i, by omega⟩
        exact filter_none n fun m r a b c => hno m r a b c
      have := filter_at (q := fun p : K × Value => keepV p.2) hp hkp
      rw [e1, h4, List.getElem?_eq_none (Nat.le_refl _)] at this
      cases this
    · obtain ⟨o, ho, hc⟩ := hs
      refine wpAny_bind (wpAny_isInstance (T := "StopIteration") (b := true) ⟨o, ho, hc⟩ isSubtype_stop ?_)
      exact wpAny_pure (hQ h' s.toks fun b o hb e => hx b o (fun q => hb (by simp [q])) e)
  self := fun j s Q E ⟨h1, _⟩ hQ => iter_self h1 hQ
end
end Mine.Fl
end
section
open PySem PySem.W PyProof.Rows PySem.Calls
namespace Mine.Mx
set_option maxRecDepth 100000
abbrev dfl (d : Value) : List (Str × Value) := [(Str.ofString "default", d)]
theorem args_max (a d : Value) : argsOk "max" ⟨[a], dfl d⟩ := by unfold argsOk; kernel_rfl
theorem name_loop : (toString "max" ++ toString ".loop" : String) = "max.loop" := by decide
section
variable {prog : Program} {w : World} {A : Around} {R : Result → Shared → Prop} {I : Addr} {fp wr : List Addr} {n : Nat} {P : Nat → Value → Prop} {St : Nat → Heap → Prop}
/-- the turns of max over an iterator with a default, once a best one is held in S -/
theorem loop (W : Walks prog w A.in1 I fp wr n P St) (bt : Nat → Nat → Bool) (hcmp : CmpOf prog w A.in1 .Gt P bt) (S : Addr) (hSf : S ∉ fp) (d : Value) :
    ∀ (k j : Nat) (s : Shared) (vb : Value) (c : Nat), j + 1 + k = n → St (j + 1) s.heap → P (argBest bt j) vb →
    s.heap.get? S = some { cls := .type "list", dict := none, data := .seq #[vb, vb] c, slots := #[] } →
    (∀ v h' tk, P (argBest bt (n - 1)) v → (∀ b o, b ∉ wr → b ≠ S → s.heap.get? b = some o → h'.get? b = some o) → R (.ok (.ret v)) { s with heap := h', toks := tk }) →
    codeAny (model prog w) A (.builtin "max.loop" ⟨[.ref I, .none, .ref S], dfl d⟩) R s
  | 0, j, s, vb, c, hk, hst, hPb, hS, hR => by
    have hSw : S ∉ wr := fun h => hSf (W.sub _ h)
    have hn : j + 1 = n := hk
    refine codeAny_builtin F.entry_max_loop ?_
    rw [Around.under_plainId F.plain_max_loop _]
    show wpAny _ A.in1 (seqItems? (.ref S) >>= _) _ _ s
    refine wpAny_bind (wpAny_seqItems hS rfl ?_)
    show wpAny _ A.in1 (tryCatch (pyNext (.ref I)) _ >>= _) _ _ s
    refine wpAny_bind (wpAny_tryCatch (W.done s _ _ (hn ▸ hst) fun h' tk hk' => ?_))
    show wpAny _ A.in1 (updateSeq S (fun _ => #[]) >>= _) _ _ _
    refine wpAny_bind (wpAny_updateSeq (hk' S _ hSw hS) rfl (wpAny_bind (wpAny_letGo (wpAny_pure ?_))))
    exact hR vb _ tk (by rw [← hn]; exact hPb) fun b o hbw hbS e => (Heap.get?_update_other _ _ (Ne.symm hbS)).trans (hk' b o hbw e)
  | k + 1, j, s, vb, c, hk, hst, hPb, hS, hR => by
    have hSw : S ∉ wr := fun h => hSf (W.sub _ h)
    refine codeAny_builtin F.entry_max_loop ?_
    rw [Around.under_plainId F.plain_max_loop _]
    show wpAny _ A.in1 (seqItems? (.ref S) >>= _) _ _ s
    refine wpAny_bind (wpAny_seqItems hS rfl ?_)
    show wpAny _ A.in1 (tryCatch (pyNext (.ref I)) _ >>= _) _ _ s
    refine wpAny_bind (wpAny_tryCatch (W.item (j + 1) s _ _ (by omega) hst fun v h' tk hP hst' hk' => ?_))
    have hS' := hk' S _ hSw hS
    show wpAny _ A.in1 (tryCatch (holding [v, v] (richCompare .Gt v vb >>= _)) _ >>= _) _ _ _
    refine wpAny_bind (wpAny_tryCatch (wpAny_holding (wpAny_bind (hcmp (j + 1) (argBest bt j) v vb _ _ _ hP hPb ?_))))
    refine wpAny_bind (wpAny_holding (wpAny_truthy_bool (wpAny_bind (wpAny_letGo (wpAny_pure ?_)))))
    cases hb : bt (j + 1) (argBest bt j) with
    | true =>
      simp only [if_true]
      refine wpAny_bind (wpAny_updateSeq hS' rfl (wpAny_bind (wpAny_letGo ?_)))
      rw [name_loop]
      refine wpAny_pure ⟨plainId_quiet F.plain_max_loop _, loop W bt hcmp S hSf d k (j + 1) _ v _ (by omega) (W.frame _ _ _ hst' fun b hbf o e => (Heap.get?_update_other _ _ (fun h : S = b => hSf (by rw [h]; exact hbf))).trans e)
        (by simp only [argBest, hb, if_true]; exact hP) (Heap.get?_update_self _ hS' rfl) fun v' h'' tk'' hP' hk'' => ?_⟩
      exact hR v' h'' tk'' hP' fun b o hbw hbS e => hk'' b o hbw hbS ((Heap.get?_update_other _ _ (Ne.symm hbS)).trans (hk' b o hbw e))
    | false =>
      simp only [Bool.false_eq_true, if_false]
      refine wpAny_bind (wpAny_letGo ?_)
      rw [name_loop]
      refine wpAny_pure ⟨plainId_quiet F.plain_max_loop _, loop W bt hcmp S hSf d k (j + 1) _ vb c (by omega) hst' (by simp only [argBest, hb, Bool.false_eq_true, if_false]; exact hPb) hS' fun v' h'' tk'' hP' hk'' => ?_⟩
      exact hR v' h'' tk'' hP' fun b o hbw hbS e => hk'' b o hbw hbS (hk' b o hbw e)
end
section
variable {prog : Program} {w : World} {A : Around} {E : Value → Shared → Prop} {s : Shared} {I : Addr} {fp wr : List Addr} {n : Nat} {P : Nat → Value → Prop} {St : Nat → Heap → Prop}
theorem bind_kw (d : Value) : Builtin.Builtins.bindParams "max" ["key", "default"] 0 ⟨[], dfl d⟩ = pure [none, some d] := by rfl
theorem call_tree_kw {id : String} {b : Builtin} {args : List Value} {kw : List (Str × Value)} {Q : Value → Shared → Prop} (hk : builtinKind id = none) (hp : plainId id = true)
    (hb : entryFor table id = some b) (ha : argsOk id ⟨args, kw⟩)
    (hc : wpAny (model prog w) A.in1 (b ⟨args, kw⟩) (fun fin s' => match fin with
      | .done f => (match (Except.ok f : Result) with | .ok (.ret v) => Q v s' | .ok _ => False | .error e => E e s')
      | .again c' => c'.quiet = true ∧ codeAny (model prog w) A c' (fun r s' => match r with | .ok (.ret v) => Q v s' | .ok _ => False | .error e => E e s') s') E s) :
    wpAny (model prog w) A (call (.builtin id) args kw) Q E s := by
  refine wpAny_call (codeAny_call_builtin hp hb ?_)
  simp only [checkBuiltinCall, hk]
  cases hsig : Manifest.signature? id with
  | none => exact wpAny_pure hc
  | some sig =>
    have h2 : Bind.checkArgs id sig ⟨args, kw⟩ = pure () := by simpa only [argsOk, hsig] using ha
    simp only [h2]
    exact wpAny_pure hc
/-- max over an iterator that is not empty, with a default -/
theorem call_max {d : Value} {Q : Value → Shared → Prop} (W : Walks prog w A.in1 I fp wr n P St) (bt : Nat → Nat → Bool) (hcmp : CmpOf prog w A.in1 .Gt P bt) (hn : 0 < n) (hst : St 0 s.heap) (hfp : ∀ b ∈ fp, b < s.heap.objs.size)
    (hQ : ∀ v h' tk, P (argBest bt (n - 1)) v → (∀ b o, b ∉ wr → s.heap.get? b = some o → h'.get? b = some o) → Q v { s with heap := h', toks := tk }) :
    wpAny (model prog w) A (call (.builtin "max") [.ref I] (dfl d)) Q E s := by
  refine call_tree_kw F.kind_max F.plain_max F.entry_max (args_max _ _) ?_
  show wpAny _ A.in1 (Builtin.Builtins.bindParams "max" ["key", "default"] 0 ⟨[], dfl d⟩ >>= _) _ _ s
  refine wpAny_bind (wpAny_of_eq (bind_kw d) (wpAny_bind (wpAny_pure (wpAny_bind (W.self 0 _ _ _ hst (wpAny_bind (wpAny_newObj_type ?_)))))))
  have hSf : s.heap.objs.size ∉ fp := fun hm => Nat.lt_irrefl _ (hfp _ hm)
  have hSw : s.heap.objs.size ∉ wr := fun h => hSf (W.sub _ h)
  rw [name_loop]
  refine wpAny_pure ⟨plainId_quiet F.plain_max_loop _, codeAny_builtin F.entry_max_loop ?_⟩
  rw [Around.under_plainId F.plain_max_loop _]
  generalize hH : s.heap.push { cls := .type "list", dict := none, data := .seq ([] : List Value).toArray } = H
  have hSH : H.get? s.heap.objs.size = some { cls := .type "list", dict := none, data := .seq ([] : List Value).toArray } := by rw [← hH]; exact Heap.get?_push_size _ rfl
  have hold : ∀ b o, s.heap.get? b = some o → H.get? b = some o := fun b o e => by rw [← hH]; exact Heap.get?_push_of_some _ e
  show wpAny _ A.in1 (seqItems? (.ref s.heap.objs.size) >>= _) _ _ { s with heap := H }
  refine wpAny_bind (wpAny_seqItems hSH rfl ?_)
  show wpAny _ A.in1 (tryCatch (pyNext (.ref I)) _ >>= _) _ _ _
  refine wpAny_bind (wpAny_tryCatch (W.item 0 { s with heap := H } _ _ hn (W.frame _ _ _ hst fun b _ o e => hold b o e) fun v h' tk hP hst' hk' => ?_))
  have hS' := hk' _ _ hSw hSH
  show wpAny _ A.in1 (updateSeq s.heap.objs.size (fun _ => #[v, v]) >>= _) _ _ _
  refine wpAny_bind (wpAny_updateSeq hS' rfl ?_)
  rw [name_loop]
  refine wpAny_pure ⟨plainId_quiet F.plain_max_loop _, loop W bt hcmp s.heap.objs.size hSf d (n - 1) 0 _ v _ (by omega) (W.frame _ _ _ hst' fun b hbf o e => (Heap.get?_update_other _ _ (fun h : s.heap.objs.size = b => hSf (by rw [h]; exact hbf))).trans e) hP
    (Heap.get?_update_self _ hS' rfl) fun v' h'' tk'' hP' hk'' => ?_⟩
  exact hQ v' h'' tk'' hP' fun b o hbw e => hk'' b o hbw (Nat.ne_of_lt (Heap.lt_size e)) ((Heap.get?_update_other _ _ (Nat.ne_of_gt (Heap.lt_size e))).trans (hk' b o hbw (hold b o e)))
end
end Mine.Mx
end
section
open PySem PySem.W PyProof.Rows PySem.Calls
namespace Mine.Fl
set_option maxRecDepth 100000
def isNone : Value → Bool
  | .none => true
  | _ => false
theorem no_contains : typeLookup (.type "dict_values") "__contains__" = pure none := by rw [typeLookup_type, builtinLookup_eq_fast]; kernel_rfl
theorem plain_contains : plainId "proto.contains_iter" = true := by decide +kernel
theorem entry_contains : entryFor table "proto.contains_iter" = some Builtin.«proto.contains_iter» := entryFor_of_fast (by kernel_rfl)
section
variable {prog : Program} {w : World} {A : Around} {E : Value → Shared → Prop} {s : Shared} {I : Addr} {fp wr : List Addr} {n : Nat} {St : Nat → Heap → Prop}
theorem eq_small {v : Value} {Q : Bool → Shared → Prop} (hv : Small v) (h : Q (isNone v) s) : wpAny (model prog w) A (eqBool v .none) Q E s := by
  rcases hv with ⟨k, t, rfl⟩ | rfl
  · unfold eqBool
    refine wpAny_holding ?_
    rw [if_neg (show ¬ ((Value.int k t == Value.none) = true) from Bool.false_ne_true)]
    have : wpAny (model prog w) A (richCompare .Eq (.int k t) .none) (fun r s' => wpAny (model prog w) A (truthOfDropped r) Q E s') E s :=
      PySem.EqNone.eq_int_none (a := k) (t := t) (show wpAny (model prog w) A (truthOfDropped (.bool false)) Q E s from wpAny_truthy_bool h)
    exact wpAny_bind this
  · unfold eqBool
    refine wpAny_holding ?_
    rw [if_pos (show (Value.none == Value.none) = true from rfl)]
    exact wpAny_bind (wpAny_rule (wpAny_pure h))
theorem contains_loop {vs : List Value} (W : Walks prog w A.in1 I fp wr vs.length (fun i v => vs[i]? = some v) St) (hsm : ∀ v ∈ vs, Small v) {R : Result → Shared → Prop} :
    ∀ (k i : Nat) (s : Shared), i + k = vs.length → St i s.heap →
      (∀ h' tk, (∀ b o, b ∉ wr → s.heap.get? b = some o → h'.get? b = some o) → R (.ok (.ret (.bool ((vs.drop i).any isNone)))) { s with heap := h', toks := tk }) →
      codeAny (model prog w) A (.builtin "proto.contains_iter" ⟨[.ref I, .none], []⟩) R s
  | 0, i, s, hk, hst, hR => by
    refine codeAny_builtin entry_contains ?_
    rw [Around.under_plainId plain_contains _]
    have hi : i = vs.length := by omega
    subst hi
    refine wpAny_bind (W.done s _ _ hst fun h' tk hk' => ?_)
    refine wpAny_bind (wpAny_rule (wpAny_pure ?_))
    have := hR h' tk hk'
    rw [List.drop_length] at this
    exact this
  | k + 1, i, s, hk, hst, hR => by
    refine codeAny_builtin entry_contains ?_
    rw [Around.under_plainId plain_contains _]
    refine wpAny_bind (W.item i s _ _ (by omega) hst fun v h' tk hP hst' hk' => ?_)
    have hd : vs.drop i = v :: vs.drop (i + 1) := by
      obtain ⟨hi, rfl⟩ := List.getElem?_eq_some_iff.mp hP
      rw [List.getElem_cons_drop]
    refine wpAny_bind (eq_small (hsm v (List.mem_of_getElem? hP)) ?_)
    cases hb : isNone v with
    | true =>
      simp only [if_true]
      refine wpAny_bind (wpAny_rule (wpAny_pure ?_))
      have := hR h' tk hk'
      rw [hd, List.any_cons, hb] at this
      exact this
    | false =>
      simp only [Bool.false_eq_true, if_false]
      refine wpAny_pure ⟨plainId_quiet plain_contains _, contains_loop W hsm k (i + 1) _ (by omega) hst' fun h'' tk'' hk'' => ?_⟩
      have := hR h'' tk'' fun b o hb e => hk'' b o hb (hk' b o hb e)
      rw [hd, List.any_cons, hb] at this
      exact this
end
section
variable {prog : Program} {w : World} {K : Type} [DecidableEq K] {knd : KeyKind prog w K} {A : Around} {E : Value → Shared → Prop} {s : Shared}
/-- None in d.values() -/
theorem none_in {v d : Addr} {kvs : List (K × Value)} {Q : Value → Shared → Prop} (hh : A.handled = none) (hv : s.heap.IsValuesView v d) (hm : s.heap.DictOf knd d kvs) (hsm : ∀ p ∈ kvs, Small p.2)
    (h : ∀ h' tk, (∀ b o, s.heap.get? b = some o → h'.get? b = some o) → Q (.bool (kvs.any fun p => isNone p.2)) { s with heap := h', toks := tk }) :
    wpAny (model prog w) A (compareOp .In .none (.ref v)) Q E s := by
  obtain ⟨ep, hm⟩ := hm.dictAt
  have hdv : d ≠ s.heap.objs.size := by obtain ⟨_, _, e, _⟩ := hm; exact Nat.ne_of_lt (Heap.lt_size e)
  have W := Walks.dictValues (prog := prog) (w := w) (knd := knd) (A := A.in1) hh s.heap.objs.size d hdv kvs ep
  have W' : Walks prog w A.in1 s.heap.objs.size [s.heap.objs.size, d] [s.heap.objs.size] (kvs.map (·.2)).length (fun i v => (kvs.map (·.2))[i]? = some v) (fun i h => h.IsValIter s.heap.objs.size d i kvs.length ep ∧ h.DictAt knd d kvs ep) := by
    rw [List.length_map]
    exact { sub := W.sub, frame := W.frame, done := W.done, self := W.self, item := fun i s Q E hi st hQ => W.item i s Q E hi st fun x h' tk hP => hQ x h' tk (by obtain ⟨k, hk⟩ := hP; rw [List.getElem?_map, hk]; rfl) }
  show wpAny _ A (contains (.ref v) .none >>= fun b => pure (.bool b)) Q E s
  refine wpAny_bind ?_
  unfold contains
  refine wpAny_holding ?_
  show wpAny _ A (specialOf (.ref v) "__contains__" >>= _) _ _ s
  refine wpAny_bind (wpAny_specialOf hv.typeIs no_contains ?_)
  refine wpAny_bind (wpAny_callSpecialUnlessNone?_none hv.typeIs no_contains ?_)
  refine wpAny_bind (wpAny_rule (wpAny_bind (wpAny_tryCatch (wpAny_pyIter_values hv hm ?_))))
  refine wpAny_bind (wpAny_runValue ?_)
  refine contains_loop W' (fun x hx => by obtain ⟨p, hp, rfl⟩ := List.mem_map.mp hx; exact hsm p hp) _ 0 _ (Nat.zero_add _) ⟨⟨_, Heap.get?_push_size _ rfl, rfl, rfl⟩, hm.at' fun o e => Heap.get?_push_of_some _ e⟩ fun h' tk hk => ?_
  refine wpAny_pure (wpAny_pure ?_)
  have := h h' tk fun b o e => hk b o (fun hb => Nat.lt_irrefl _ (List.mem_singleton.mp hb ▸ Heap.lt_size e)) (Heap.get?_push_of_some _ e)
  rw [List.drop_zero, List.any_map]
  exact this
end
end Mine.Fl
end
section
open PySem PySem.W PyProof.Rows PySem.Calls
namespace Mine.Fl
set_option maxRecDepth 100000
def valI : Value → Int
  | .int n _ => n
  | _ => 0
abbrev valsObj (d : Addr) : Obj := { cls := .type "dict_values", data := .fields #[.ref d] }
abbrev filtObj (it : Addr) : Obj := { cls := .type "filter", dict := none, data := .fields #[.none, .ref it], slots := #[] }
def figs {K : Type} (kvs : List (K × Value)) : List Int := (kvs.filter fun p => keepV p.2).map fun p => valI p.2
theorem keep_int {v : Value} (h : keepV v = true) : ∃ n t, v = .int n t := by
  unfold keepV at h
  split at h
  · exact ⟨_, _, rfl⟩
  · cases h
section
variable {prog : Program} {w : World} {K : Type} [DecidableEq K] {knd : KeyKind prog w K} {A : Around} {E : Value → Shared → Prop} {s : Shared} {h₀ : Heap} {L : Addr} {m : Str → Option Value} {news : List (Addr × Obj)} {kvs : List (K × Value)} {d : Addr} {Q : Value → Shared → Prop}
theorem values_N (hd : (d == sysModules) = false) (hm : h₀.DictOf knd d kvs) (F : Fr h₀ L s.heap m) (N : News h₀ L s.heap news)
    (h : ∀ h' v, Fr h₀ L h' m → News h₀ L h' ((v, valsObj d) :: news) → Q (.ref v) { s with heap := h' }) : wpAny (model prog w) A (call (.builtin "dict.values") [.ref d]) Q E s := by
  have hm' := hm.keep F.keep
  exact call_meetsIn PySem.F.slot_dict_values hm'.typeIs PySem.F.entry_dict_values (PySem.F.args_dict_values_1 _) (meets_dict_values knd d hd) ⟨⟨kvs, hm'⟩, h _ _ (F.push _) (News.push F N _)⟩
theorem getValues (hm : h₀.DictOf knd d kvs) (F : Fr h₀ L s.heap m) {pl : Sem Bool} {Q : Value × List Value → Shared → Prop} (h : Q (.builtin "dict.values", [.ref d]) s) : wpAny (model prog w) A (getMethod (.ref d) "values" pl) Q E s := by
  have hm' := hm.keep F.keep
  exact getMethod_builtin hm'.typeIs PySem.F.plainAttrs_dict PySem.F.slot_dict_values PySem.F.type_dict_values hm'.mapOf.noDict h
theorem filter_N {v : Addr} (hm : h₀.DictOf knd d kvs) (F : Fr h₀ L s.heap m) (N : News h₀ L s.heap news) (hv : (v, valsObj d) ∈ news)
    (h : ∀ h' f it ep, f ≠ it → d ≠ it → Fr h₀ L h' m → h'.IsValIter it d 0 kvs.length ep → h'.DictAt knd d kvs ep → h₀.get? it = none → it ≠ L → News h₀ L h' [(f, filtObj it)] → Q (.ref f) { s with heap := h' }) :
    wpAny (model prog w) A (call (.type "filter") [.none, .ref v]) Q E s := by
  obtain ⟨ep, hm'⟩ := (hm.keep F.keep).dictAt
  have hV : s.heap.IsValuesView v d := ⟨_, N.get hv, rfl, rfl⟩
  refine call_filter hV hm' fun h' hf hit hz hk => ?_
  have hne : ∀ a, s.heap.objs.size ≤ a → h₀.get? a = none ∧ a ≠ L := fun a ha => by
    refine ⟨?_, fun e => ?_⟩
    · cases q : h₀.get? a with
      | none => rfl
      | some o => exact absurd (Heap.lt_size (F.keep _ _ q)) (Nat.not_lt.mpr ha)
    · subst e; obtain ⟨_, _, _, q, _⟩ := F.ns; exact absurd (Heap.lt_size q) (Nat.not_lt.mpr ha)
  have hdl : d < s.heap.objs.size := by obtain ⟨_, _, e, _⟩ := hm'; exact Heap.lt_size e
  refine h h' _ _ ep (Nat.succ_ne_self _) (Nat.ne_of_lt hdl) (F.keeps hk) hit (hm'.at' fun o e => hk _ _ e) (hne _ (Nat.le_refl _)).1 (hne _ (Nat.le_refl _)).2 fun p hp => ?_
  rw [List.mem_singleton.mp hp]
  exact ⟨hf, (hne _ (Nat.le_succ _)).2, (hne _ (Nat.le_succ _)).1⟩
theorem max_N {f it : Addr} {ep : Nat} {dv : Value} (hh : A.handled = none) (hsm : ∀ p ∈ kvs, Small p.2) (hne : figs kvs ≠ []) (hfi : f ≠ it) (hdi : d ≠ it) (F : Fr h₀ L s.heap m) (hit : s.heap.IsValIter it d 0 kvs.length ep)
    (hm : s.heap.DictAt knd d kvs ep) (hi0 : h₀.get? it = none) (hiL : it ≠ L) (N : News h₀ L s.heap [(f, filtObj it)])
    (h : ∀ h' M t tk, Fr h₀ L h' m → News h₀ L h' [] → M ∈ figs kvs → (∀ a ∈ figs kvs, a ≤ M) → Q (.int M t) { s with heap := h', toks := tk }) :
    wpAny (model prog w) A (call (.builtin "max") [.ref f] (Mx.dfl dv)) Q E s := by
  have hF := N.get (.head _)
  have W := walks (prog := prog) (w := w) (knd := knd) (A := A.in1) hh (ep := ep) hfi hdi hsm
  have hlen : (kvs.filter fun p => keepV p.2).length = (figs kvs).length := by unfold figs; rw [List.length_map]
  have hpos : 0 < (kvs.filter fun p => keepV p.2).length := by rw [hlen]; exact List.length_pos_iff.mpr hne
  have hval : ∀ (j : Nat) (v : Value), (∃ p, (kvs.filter fun p => keepV p.2)[j]? = some p ∧ p.2 = v) → ∃ t, v = Value.int ((figs kvs).getD j 0) t := fun j v ⟨p, hp, hv⟩ => by
    subst hv
    have hk : keepV p.2 = true := (List.mem_filter.mp (List.mem_of_getElem? hp)).2
    obtain ⟨n, t, e⟩ := keep_int hk
    refine ⟨t, ?_⟩
    have : (figs kvs)[j]? = some n := by unfold figs; rw [List.getElem?_map, hp, Option.map_some, e]; rfl
    rw [List.getD_eq_getElem?_getD, this, e]; rfl
  have hb := argBest_gt (fun j => (figs kvs).getD j 0) ((kvs.filter fun p => keepV p.2).length - 1)
  refine Mx.call_max W _ (CmpOf.ints_gt (fun j => (figs kvs).getD j 0) hval) hpos ⟨hF, hm, 0, hit, rfl⟩ (fun b hb => ?_) fun v h' tk hP hk => ?_
  · rcases List.mem_cons.mp hb with rfl | hb
    · exact Heap.lt_size hF
    · rcases List.mem_cons.mp hb with rfl | hb
      · obtain ⟨_, e, _⟩ := hit; exact Heap.lt_size e
      · rw [List.mem_singleton.mp hb]; obtain ⟨_, _, e, _⟩ := hm; exact Heap.lt_size e
  · obtain ⟨t, rfl⟩ := hval _ v hP
    refine h h' _ t tk ⟨F.ns.at' fun o e => hk L o (by simpa using Ne.symm hiL) e, fun b o e => hk b o (fun hb => ?_) (F.keep b o e), F.above⟩ News.nil ?_ fun a ha => ?_
    · rw [List.mem_singleton.mp hb, hi0] at e; cases e
    · have hj : argBest (fun i j => decide ((figs kvs).getD i 0 > (figs kvs).getD j 0)) ((kvs.filter fun p => keepV p.2).length - 1) < (figs kvs).length := by have := hb.1; omega
      rw [List.getD_eq_getElem?_getD, List.getElem?_eq_getElem hj, Option.getD_some]
      exact List.getElem_mem hj
    · obtain ⟨j, hj, rfl⟩ := List.getElem_of_mem ha
      have := hb.2 j (by omega)
      simp only [List.getD_eq_getElem?_getD, List.getElem?_eq_getElem hj, Option.getD_some] at this
      exact this
theorem noneIn_N {v : Addr} (hh : A.handled = none) (hsm : ∀ p ∈ kvs, Small p.2) (hm : h₀.DictOf knd d kvs) (F : Fr h₀ L s.heap m) (N : News h₀ L s.heap news) (hv : (v, valsObj d) ∈ news)
    (h : ∀ h' tk, Fr h₀ L h' m → News h₀ L h' news → Q (.bool (kvs.any fun p => isNone p.2)) { s with heap := h', toks := tk }) :
    wpAny (model prog w) A (compareOp .In .none (.ref v)) Q E s :=
  none_in hh ⟨_, N.get hv, rfl, rfl⟩ (hm.keep F.keep) hsm fun h' tk hk => h h' tk (F.keeps hk) (N.grown hk)
end
end Mine.Fl
end
section
open PySem PySem.W PyProof.Rows PySem.Calls
namespace Mine
variable {w : World} {A : Around} {s : Shared} {p : Program} {loose : List Str} {mean : ExcName → Option Value} {mg mb : Str → Option Value}

theorem enter {name qual : Str} {params : Arguments} {body : List Stmt} {scope : Scope} {dV kV doc pm cdv ct oc : Value} {an od : Option Addr} {osl : Array (Option Value)} {f : Addr} {vs : List Value} {binds : List (Str × Value)} {Q E : Value → Shared → Prop}
    (X : (hd.heap_39 w.params).In s.heap) (T : Top p loose mean mg mb s.heap)
    (ho : (hd.heap_39 w.params).lookup f = some ⟨oc, od, .func (fnOf name qual params body scope dV kV doc pm an cdv ct), osl⟩) (hcd : codeIn (hd.heap_39 w.params) cdv qual = true) (hroom : A.depth < recursionLimit)
    (hbind : BindsTo s (fnOf name qual params body scope dV kV doc pm an cdv ct) ⟨vs, []⟩ binds) (hloc : ∀ y ∈ binds, scope.names.lookup y.1 = some .local)
    (h : ∀ L h₁, Fr s.heap L h₁ (fun y => binds.reverse.lookup y) → News s.heap L h₁ [] →
      wpAny (model Challenge.rw_zd0002_01.row.prog w) (A.deeper (envOf qual scope L f cdv)) (execs body (envOf qual scope L f cdv)) (fun fl s' => Q (match fl with | .ret v => v | _ => .none) s') (fun _ _ => False) { s with heap := h₁, toks := s.toks + binds.length })
    (hcell : ∀ x ∈ scope.names, x.2 ≠ .cell) (hco : scope.isCoroutine = false) (hgen : scope.isGenerator = false) (hk : scope.kind = .function) :
    wpAny (model Challenge.rw_zd0002_01.row.prog w) A (call (.ref f) vs) Q E s := by
  refine wpAny_call (codeAny_call_def (fd := fnOf name qual params body scope dV kV doc pm an cdv ct) (body := body) (binds := binds) hroom (X _ _ ho) rfl T.nolimit (codeRec_of X hcd) rfl hbind hcell hloc (fun h₁ hns hk₁ => ?_) hco hgen hk)
  exact wpAny_mono (h s.heap.objs.size h₁ ⟨hns, hk₁, Nat.le_refl _⟩ News.nil) (fun _ _ x => x) fun _ _ x => x.elim

abbrev Grows (h h' : Heap) : Prop := ∀ b o, h.get? b = some o → h'.get? b = some o
section
variable {prog : Program} {E : Value → Shared → Prop} {Q : Value → Shared → Prop} {x y z : Str} {t u v : Tok} {n i : Int}
theorem find_is (e : Txt.find x y = n) (h : Q (.int n s.toks) { s with toks := s.toks + 1 }) : wpAny (model prog w) A (call (.builtin "str.find") [.str x t, .str y u]) Q E s := SC.find (e ▸ h)
theorem find3_is (e : Txt.find3 x y i = n) (h : Q (.int n s.toks) { s with toks := s.toks + 1 }) : wpAny (model prog w) A (call (.builtin "str.find") [.str x t, .str y u, .int i v]) Q E s := SC.find3 (e ▸ h)
theorem item_is {value slice : Expr} (e : Txt.item x i = y) (h1 : -(x.length : Int) ≤ i) (h2 : i < x.length) (hx : (x.length : Int) < 9223372036854775808)
    (h : Q (.str y s.toks) { s with toks := s.toks + 1 })
    (hs : subscripted slice false (.str x t) (.int i u) = operate [.str x t, .int i u] (getItem (.str x t) (.int i u)) := by with_unfolding_all rfl)
    (ht : ∀ r, letTemporaryGo value (.str x t) r = pure () := by intro _; with_unfolding_all rfl) :
    wpAny (model prog w) A (subscriptTail value slice (.str x t) (.int i u)) Q E s :=
  item_str (fitsSsize_of (N := 9223372036854775808) (by omega) (by omega) (Int.le_refl _)) h1 h2 (fun _ => e ▸ h) hs ht
end
end Mine
end
section
open PySem PySem.W PyProof.Rows PySem.Calls
namespace Mine
local macro_rules | `(tactic| walk_at "m_enter") => `(tactic| (
  (case k6 => k_dflt k_is); (case k7 => k_dflt k_is); (case k9 => k_dflt (exact BindsTo.of_eq rfl)); (case kB => exact locs rfl); (case c5 => decide); (case c2 => rfl); (case c3 => rfl); (case c4 => rfl);
  intro L h₁ F N))
section
open PySem PySem.W PyProof.Rows PySem.Calls
variable {w : World} {A : Around} {s s' : Shared} {p : Program} {loose : List Str} {mean : ExcName → Option Value} {mg mb : Str → Option Value} {Q E : Value → Shared → Prop}

theorem ret_int {x y : Int} {t : Tok} {h' : Heap} {tk' : Nat} (h : ∀ t h' tk', Grows s.heap h' → Q (.int x t) { s with heap := h', toks := tk' }) (k : Grows s.heap h') (e : x = y) : Q (.int y t) { s with heap := h', toks := tk' } := e ▸ h t h' tk' k
def sgn (a b : Int) : Int := if a = b then 0 else if a > b then 1 else -1
set_option maxHeartbeats 4000000 in
set_option maxRecDepth 100000 in
theorem sign_call {a b : Int} {t u : Tok} (hroom : A.depth < recursionLimit)
    (X : (hd.heap_39 w.params).In s.heap) (T : Top p loose mean mg mb s.heap) (hQ : ∀ t h' tk', Grows s.heap h' → Q (.int (sgn a b) t) { s with heap := h', toks := tk' }) : wpAny (model Challenge.rw_zd0002_01.row.prog w) A (call (.ref 105) [.int a t, .int b u]) Q E s := by
  revert X; k_fill; intro X
  refine' enter (binds := [(Str.ofString "first", .int a t), (Str.ofString "second", .int b u)]) X T ?k6 ?k7 hroom ?k9 ?kB ?_ ?c5 ?c2 ?c3 ?c4
  walk_at "m_enter"
  k_steps
  all_goals dsimp only
  all_goals (rename Fr _ _ _ _ => F; refine ret_int hQ F.keep ?_; unfold sgn; simp only [*, if_true, if_false, gt_iff_lt])
set_option maxHeartbeats 4000000 in
set_option maxRecDepth 100000 in
theorem strcoll_call {a b : Str} {t u : Tok} (hroom : A.depth < recursionLimit)
    (X : (hd.heap_39 w.params).In s.heap) (T : Top p loose mean mg mb s.heap) (hQ : ∀ t h' tk', Grows s.heap h' → Q (.int (b2i (decide (b.cps.toList < a.cps.toList)) - b2i (decide (a.cps.toList < b.cps.toList))) t) { s with heap := h', toks := tk' }) : wpAny (model Challenge.rw_zd0002_01.row.prog w) A (call (.ref 72) [.str a t, .str b u]) Q E s := by
  refine' enter (binds := [(Str.ofString "a", .str a t), (Str.ofString "b", .str b u)]) X T ?k6 ?k7 hroom ?k9 ?kB ?_ ?c5 ?c2 ?c3 ?c4
  walk_at "m_enter"
  k_steps
  all_goals dsimp only
  all_goals (rename Fr _ _ _ _ => F; exact hQ _ _ _ F.keep)
set_option maxHeartbeats 4000000 in
set_option maxRecDepth 100000 in
theorem strxfrm_call {a : Str} {t : Tok} (hroom : A.depth < recursionLimit)
    (X : (hd.heap_39 w.params).In s.heap) (T : Top p loose mean mg mb s.heap) (hQ : ∀ h' tk', Grows s.heap h' → Q (.str a t) { s with heap := h', toks := tk' }) : wpAny (model Challenge.rw_zd0002_01.row.prog w) A (call (.ref 79) [.str a t]) Q E s := by
  refine' enter (binds := [(Str.ofString "s", .str a t)]) X T ?k6 ?k7 hroom ?k9 ?kB ?_ ?c5 ?c2 ?c3 ?c4
  walk_at "m_enter"
  k_steps
  all_goals dsimp only
  all_goals (rename Fr _ _ _ _ => F; exact hQ _ _ F.keep)
end
section
open PySem PySem.W PyProof.Rows PySem.Calls
variable {w : World} {A : Around} {s s' : Shared} {p : Program} {loose : List Str} {mean : ExcName → Option Value} {mg mb : Str → Option Value} {Q E : Value → Shared → Prop}

local macro_rules | `(tactic| walk_at "call builtin:str.find") => `(tactic| first | refine find_is (by assumption) ?_ | refine find3_is (by assumption) ?_)
local macro_rules | `(tactic| walk_at "subscriptTail Name BinOp str int") => `(tactic| refine item_is (by assumption) (by omega) (by omega) (by omega) ?_)
local macro_rules | `(tactic| walk_at "ite") => `(tactic| first
  | refine ite_neg (by rw [show Txt.slice _ none _ = _ from by assumption]; decide) ?_
  | refine ite_neg (show ¬ ((_ : Str) != _) = true from by simp; done) ?_)
theorem five_of {l : List (Str × Tok)} {x0 x1 x2 x3 x4 : Str} (e : l.map (·.1) = [x0, x1, x2, x3, x4]) : ∃ t0 t1 t2 t3 t4, strValues l = [.str x0 t0, .str x1 t1, .str x2 t2, .str x3 t3, .str x4 t4] := by
  obtain ⟨t0, l0, rfl, e0⟩ := KSpl.cons_of e
  obtain ⟨t1, l1, rfl, e1⟩ := KSpl.cons_of e0
  obtain ⟨t2, l2, rfl, e2⟩ := KSpl.cons_of e1
  obtain ⟨t3, l3, rfl, e3⟩ := KSpl.cons_of e2
  obtain ⟨t4, l4, rfl, e4⟩ := KSpl.cons_of e3
  obtain rfl := KSpl.nil_of e4
  exact ⟨t0, t1, t2, t3, t4, rfl⟩
local macro_rules | `(tactic| walk_at "call builtin:str.split") => `(tactic| (
  refine KSpl.split1 (by assumption) (by assumption) (by simp [*]) ?_ (by size_fits); intro D' l' h' k' e' a' F' N' l1;
  (rw [show Txt.split _ _ = _ from by assumption] at e');
  (obtain ⟨t0', t1', t2', t3', t4', e''⟩ := five_of e'); (rw [e''] at N')))
set_option maxHeartbeats 4000000 in
set_option maxRecDepth 100000 in
/-- parse229, its reply's facts given -/
theorem parse_call {resp m x0 x1 x2 fig x4 : Str} {l : Addr} {a : Str} {t u tk : Tok} {n k r : Int} (hroom : A.depth < recursionLimit) (hl : IsTup s.heap l #[.str a u, .int k tk]) (hsz : resp.length ≤ 1000)
    (X : (hd.heap_39 w.params).In s.heap) (T : Top p loose mean mg mb s.heap) 
    (e1 : Txt.slice resp none (some 3) = Str.ofString "229") (e2 : Txt.find resp (Str.ofString "(") = 13) (e3 : Txt.find3 resp (Str.ofString ")") (13 + 1) = r) (hr : 14 < r) (hr2 : r < resp.length)
    (hm : m.length = 1) (e4 : Txt.item resp (13 + 1) = m) (e5 : Txt.item resp (r - 1) = m) (e6 : Txt.split (Txt.slice resp (some (13 + 1)) (some r)) m = [x0, x1, x2, fig, x4]) (e7 : PySem.intText? fig = some n) (hf : fig.length ≤ 640)
    (hQ : ∀ l t h' tk', Grows s.heap h' → IsTup h' l #[.str a u, .int n t] → Q (.ref l) { s with heap := h', toks := tk' }) : wpAny (model Challenge.rw_zd0002_01.row.prog w) A (call (.ref 65) [.str resp t, .ref l]) Q E s := by
  revert X; k_fill; intro X
  refine' enter (binds := [(Str.ofString "resp", .str resp t), (Str.ofString "peer", .ref l)]) X T ?k6 ?k7 hroom ?k9 ?kB ?_ ?c5 ?c2 ?c3 ?c4
  walk_at "m_enter"
  k_steps
  (rename Fr _ _ _ _ => F'; rename News _ _ _ _ => N'; exact hQ _ _ _ _ F'.keep (N'.isTup (.head _)))
end
section
open PySem PySem.W PyProof.Rows PySem.Calls
variable {w : World} {A : Around} {s s' : Shared} {p : Program} {loose : List Str} {mean : ExcName → Option Value} {mg mb : Str → Option Value} {Q E : Value → Shared → Prop}
/-- the number that a text of figures tells -/
def val (x : Str) : Int := ((NumText.digitsVal x.cps.toList : Nat) : Int)
local macro_rules | `(tactic| walk_at "call ref") => `(tactic| (
  (rename Fr _ _ _ _ => F'); (rename News _ _ _ _ => N'); (rename ReplyFacts _ _ _ _ => R');
  refine parse_call (by show _ + 1 < recursionLimit; assumption) (N'.isTup (.head _)) ?sz (Frag.In.keeps (by assumption) F'.keep) (Top.keeps (by assumption) F'.keep) R'.e1 R'.e2 R'.e3 ?r1 ?r2 rfl R'.e4 R'.e5 R'.e6 (by assumption) ?f ?_;
  (case sz => (rw [R'.len]; omega)); (case r1 => omega); (case r2 => (rw [R'.len]; omega)); (case f => omega);
  intro l' t' h' tk' k' T'; (have F'' := Fr.keeps F' k'); clear F' N'))
set_option maxHeartbeats 4000000 in
set_option maxRecDepth 100000 in
theorem port_call {a : Str} {c : Nat} {t u : Tok} (hroom : A.depth + 1 < recursionLimit) (hc : c ≠ 41) (hcd : c < 48 ∨ 57 < c) (had : NumText.AllDigits a.cps.toList) (ha0 : a.length ≠ 0) (ha : a.length ≤ 100)
    (X : (hd.heap_39 w.params).In s.heap) (T : Top p loose mean mg mb s.heap) (hQ : ∀ t h' tk', Grows s.heap h' → Q (.int (val a) t) { s with heap := h', toks := tk' }) : wpAny (model Challenge.rw_zd0002_01.row.prog w) A (call (.ref 98) [.str a t, .str ⟨#[c]⟩ u]) Q E s := by
  have R := reply_facts a c hc (fun h => by have := had _ h; omega) (fun h => by have := had _ h; omega)
  have e7 : PySem.intText? a = some (val a) := intText_digits had (fun h => ha0 (by rw [← len_list, h]; rfl)) (by omega)
  have h3 : (Txt.mul ⟨#[c]⟩ 3).length = 3 := by rw [mul3]; rfl
  have h1 : (⟨#[c]⟩ : Str).length = 1 := rfl
  revert X; k_fill; intro X
  refine' enter (binds := [(Str.ofString "figures", .str a t), (Str.ofString "mark", .str ⟨#[c]⟩ u)]) X T ?k6 ?k7 (by omega) ?k9 ?kB ?_ ?c5 ?c2 ?c3 ?c4
  walk_at "m_enter"
  k_steps
  (rename Fr _ _ _ _ => F'; exact hQ _ _ _ F'.keep)
end
section
open PySem PySem.W PyProof.Rows PySem.Calls
variable {w : World} {A : Around} {s s' : Shared} {p : Program} {loose : List Str} {mean : ExcName → Option Value} {mg mb : Str → Option Value} {Q E : Value → Shared → Prop}
local macro_rules | `(tactic| walk_at "getMethod ref") => `(tactic| (refine Fl.getValues (by assumption) (by assumption) ?_))
local macro_rules | `(tactic| walk_at "call builtin:dict.values") => `(tactic| (refine Fl.values_N (by assumption) (by assumption) (by assumption) (by assumption) ?_; intro h' v' F' N'))
local macro_rules | `(tactic| walk_at "call type:filter") => `(tactic| (refine Fl.filter_N (by assumption) (by assumption) (by assumption) (.head _) ?_; intro h' f' it' ep' e1' e2' F' I' D' e3' e4' N'))
local macro_rules | `(tactic| walk_at "call builtin:max") => `(tactic| (with_unfolding_all refine Fl.max_N (by assumption) (by assumption) (by assumption) (by assumption) (by assumption) (by assumption) (by assumption) (by assumption) (by assumption) (by assumption) (by assumption) ?_; intro h' M' t' tk' F' N' m1' m2'; (have m3' := (by assumption : ∀ a ∈ Fl.figs _, 0 < a ∧ a < 10 ^ 40) _ m1')))
local macro_rules | `(tactic| walk_at "compareOp In none ref") => `(tactic| (refine Fl.noneIn_N (by assumption) (by assumption) (by assumption) (by assumption) (by assumption) (.head _) ?_; intro h' tk' F' N'))
/-- how many figures an int's text has -/
def dlen (a : Int) : Nat := (Str.ofString (toString a)).length
theorem str_num {prog : Program} {a : Int} {t : Tok} (h0 : 0 < a) (h1 : a < 10 ^ 40) (h : dlen a ≤ 50 → Q (.str (Str.ofString (toString a)) s.toks) { s with toks := s.toks + 1 }) : wpAny (model prog w) A (call (.type "str") [.int a t]) Q E s :=
  P.str_of_int (shown (N := 2 ^ 1920) (by omega) (by omega) (Int.le_refl _)) (h (by
    unfold dlen
    rw [PySem.ofString_length]
    exact Nat.le_trans (int_text_length_le10 (k := 40) (by decide) (by omega)) (by decide)))
theorem len_num' {prog : Program} {a : Int} {t : Tok} (h0 : dlen a ≤ 50) (h : Q (.int (dlen a) (s.toks + 1)) { s with toks := s.toks + 1 + 1 }) : wpAny (model prog w) A (call (.builtin "len") [.str (Str.ofString (toString a)) t]) Q E s :=
  P.len_str (by unfold dlen at h0; omega) h
local macro_rules | `(tactic| walk_at "call type:str") => `(tactic| (refine str_num (by omega) (by omega) ?_; intro hd'))
local macro_rules | `(tactic| walk_at "call builtin:max") => `(tactic| (refine max_two_N (by assumption) (by assumption) (by assumption) ?_; intro h' tk' F' N'))
local macro_rules | `(tactic| walk_at "ite") => `(tactic| (refine ite_neg (show ¬ ((_ : Int) = _) from by omega) ?_))
local macro_rules | `(tactic| walk_at "ite") => `(tactic| (refine ite_neg (show ¬ (decide ((_ : Int) = _)) = true from by rw [decide_eq_true_eq]; omega) ?_))
def widthOf (M : Int) (n : Bool) : Int := if (if (dlen M : Int) > 3 then (dlen M : Int) else 3) < 4 then (if n then 4 else (if (dlen M : Int) > 3 then (dlen M : Int) else 3)) else (if (dlen M : Int) > 3 then (dlen M : Int) else 3)
local macro_rules | `(tactic| walk_at "call builtin:len") => `(tactic| (refine len_num' (by assumption) ?_))
theorem ret_width {K : Type} {kvs : List (K × Value)} {M v : Int} {b : Bool} {t : Tok} {h' : Heap} {tk' : Nat} (hQ : ∀ M t h' tk', M ∈ Fl.figs kvs → (∀ a ∈ Fl.figs kvs, a ≤ M) → Grows s.heap h' → Q (.int (widthOf M b) t) { s with heap := h', toks := tk' })
    (h1 : M ∈ Fl.figs kvs) (h2 : ∀ a ∈ Fl.figs kvs, a ≤ M) (k : Grows s.heap h') (e : widthOf M b = v) : Q (.int v t) { s with heap := h', toks := tk' } := e ▸ hQ M t h' tk' h1 h2 k
set_option maxHeartbeats 4000000 in
set_option maxRecDepth 100000 in
theorem width_call {d : Addr} {kvs : List (Int × Value)} (hroom : A.depth + 1 < recursionLimit) (hhA : A.handled = none) (hds : (d == sysModules) = false)
    (hm : s.heap.DictOf (intKind Challenge.rw_zd0002_01.row.prog w) d kvs) (hsm : ∀ p ∈ kvs, Fl.Small p.2) (hne : Fl.figs kvs ≠ []) (hpos : ∀ a ∈ Fl.figs kvs, 0 < a ∧ a < 10 ^ 40)
    (X : (hd.heap_39 w.params).In s.heap) (T : Top p loose mean mg mb s.heap) (hQ : ∀ M t h' tk', M ∈ Fl.figs kvs → (∀ a ∈ Fl.figs kvs, a ≤ M) → Grows s.heap h' → Q (.int (widthOf M (kvs.any fun p => Fl.isNone p.2)) t) { s with heap := h', toks := tk' }) : wpAny (model Challenge.rw_zd0002_01.row.prog w) A (call (.ref 21) [.ref d]) Q E s := by
  revert X; k_fill; intro X
  refine' enter (binds := [(Str.ofString "linestarts", .ref d)]) X T ?k6 ?k7 (by omega) ?k9 ?kB ?_ ?c5 ?c2 ?c3 ?c4
  walk_at "m_enter"
  k_steps
  all_goals dsimp only
  all_goals (rename Fr _ _ _ _ => F'; (rename (_ ∈ Fl.figs _) => m1'); refine ret_width hQ m1' (by assumption) F'.keep ?_; unfold widthOf; repeat' split)
  all_goals first | rfl | omega | (simp_all; done) | (simp_all; omega)
end
section
open PySem PySem.W PyProof.Rows PySem.Calls PySem.Spec
set_option maxHeartbeats 4000000
set_option maxRecDepth 100000
/-- a frame of which the stored names are whatever u says -/
def mix (stored : List Str) (u m : Str → Option Value) : Str → Option Value := fun y => if stored.contains y = true then u y else m y
theorem mix_self {stored : List Str} {m m' : Str → Option Value} (h : ∀ y, stored.contains y = false → m' y = m y) : m' = mix stored m' m := by
  funext y
  unfold mix
  cases e : stored.contains y with
  | true => rfl
  | false => exact h y e
section
variable {prog : Program} {w : World} {A : Around} {E : Value → Shared → Prop} {s : Shared} {env : Env} {h₀ : Heap} {x : Str} {body : List Stmt} {Q : Flow → Shared → Prop}
/-- how a turn of a loop ends that stores the named names alone -/
def RangeEnd (h₀ : Heap) (L I : Addr) (it : Obj) (stored : List Str) (m₀ : Str → Option Value) (J : List (Addr × Obj) → Prop) (s₁ : Shared) (f : Flow) (s₂ : Shared) : Prop :=
  f = .next ∧ ∃ h' tk m' news', s₂ = { s₁ with heap := h', toks := tk } ∧ Fr h₀ L h' m' ∧ (∀ y, stored.contains y = false → m' y = m₀ y) ∧ News h₀ L h' ((I, it) :: news') ∧ (∀ p ∈ news', p.1 ≠ I) ∧ J news'
theorem rangeRest_ind {I : Addr} {a : Int} {n : Nat} {m₀ : Str → Option Value} (stored : List Str) (J : Nat → List (Addr × Obj) → Prop)
    (step : ∀ i u news it t h tk, i < n → J i news → (∀ p ∈ news, p.1 ≠ I) → Fr h₀ env.locals h (fun y => if y = x then some (.int (a + (i : Int)) t) else mix stored u m₀ y) → News h₀ env.locals h ((I, it) :: news) →
      wpAny (model prog w) A (execs body env) (RangeEnd h₀ env.locals I it stored m₀ (J (i + 1)) { s with heap := h, toks := tk }) E { s with heap := h, toks := tk })
    (done : ∀ u news h tk, J n news → Fr h₀ env.locals h (mix stored u m₀) → News h₀ env.locals h news → Q .next { s with heap := h, toks := tk }) :
    ∀ k i u news, i + k = n → J i news → (∀ p ∈ news, p.1 ≠ I) → RangeRest prog w A E h₀ env x body Q s I a n k i (mix stored u m₀) news
  | 0, i, u, news, e, hJ, _ => by
    obtain rfl : i = n := by omega
    exact fun h tk F N => done u news h tk hJ F N
  | k + 1, i, u, news, e, hJ, hI => fun t h tk F N => by
    refine wpAny_mono (step i u news _ t h tk (by omega) hJ hI F N) (fun f s₂ h₂ => ?_) fun _ _ e => e
    obtain ⟨rfl, h', tk', m', news', rfl, F', hm, N', off, hJ'⟩ := h₂
    refine ⟨h', tk', m', news', rfl, F', N', off, ?_⟩
    rw [mix_self hm]
    exact rangeRest_ind stored J step done k (i + 1) m' news' (by omega) hJ' off
/-- for x in range(a, b): .. -/
theorem range_loop {r : Addr} {a₀ b₀ : Int} {t₀ u₀ v₀ : Tok} {n : Nat} {m₀ u : Str → Option Value} {news : List (Addr × Obj)} (stored : List Str)
    (hh : A.handled = none) (hr : IsRange s.heap r a₀ b₀ 1 t₀ u₀ v₀) (hsmall : Builtin.Range.small a₀ b₀ 1 = true) (hn : Builtin.Range.rangeSize a₀ b₀ 1 = (n : Int)) (F : Fr h₀ env.locals s.heap (mix stored u m₀)) (N : News h₀ env.locals s.heap news)
    (J : Nat → List (Addr × Obj) → Prop) (h0 : J 0 news)
    (step : ∀ i u news I it t h tk, i < n → J i news → (∀ p ∈ news, p.1 ≠ I) → Fr h₀ env.locals h (fun y => if y = x then some (.int (a₀ + (i : Int)) t) else mix stored u m₀ y) → News h₀ env.locals h ((I, it) :: news) →
      wpAny (model prog w) A (execs body env) (RangeEnd h₀ env.locals I it stored m₀ (J (i + 1)) { s with heap := h, toks := tk }) E { s with heap := h, toks := tk })
    (done : ∀ u news h tk, J n news → Fr h₀ env.locals h (mix stored u m₀) → News h₀ env.locals h news → Q .next { s with heap := h, toks := tk }) :
    wpAny (model prog w) A (pyIter (.ref r)) (fun it s₂ => LoopAtV prog w A h₀ env x body Q E it s₂) E s :=
  iter_rangeUnr hh hr hsmall hn F N fun I hI => rangeRest_ind stored J (fun i u news it t h tk => step i u news I it t h tk) done n 0 u news (Nat.zero_add n) h0 fun p hp => Nat.ne_of_lt (hI p hp)
end
theorem mix_off {stored : List Str} {u m : Str → Option Value} {y : Str} (hy : stored.contains y = false) : mix stored u m y = m y := if_neg (by rw [hy]; decide)
theorem off_one {stored : List Str} {y z : Str} {v : Option Value} {r : Option Value} {a : Option Value} (hy : stored.contains y = false) (hz : stored.contains z = true) (h : r = a) : (if y = z then v else r) = a := by
  rw [if_neg (fun e => by rw [e, hz] at hy; cases hy)]; exact h
theorem fr_mix {h₀ h : Heap} {L : Addr} {m : Str → Option Value} (stored : List Str) (F : Fr h₀ L h m) : Fr h₀ L h (mix stored m m) := by
  rw [← mix_self (fun _ _ => rfl)]; exact F
theorem strs_snoc {x : Str} {t : Tok} : ∀ {vs : List Value} {xs : List Str}, StrsAre vs xs → StrsAre (vs ++ [.str x t]) (xs ++ [x])
  | _, _, .nil => .cons x t .nil
  | _, _, .cons x' t' h => .cons x' t' (strs_snoc h)
theorem strs_inv {a : Str} {as : List Str} {zs : List Value} (h : StrsAre zs (a :: as)) : ∃ t z, zs = .str a t :: z ∧ StrsAre z as := by
  cases h with
  | cons _ t h => exact ⟨t, _, rfl, h⟩
theorem strs_nil {zs : List Value} (h : StrsAre zs []) : zs = [] := by
  cases h with
  | nil => rfl
theorem strs_four {zs : List Value} {a b c d : Str} (h : StrsAre zs [a, b, c, d]) : ∃ t0 t1 t2 t3, zs = [.str a t0, .str b t1, .str c t2, .str d t3] := by
  obtain ⟨t0, z1, e0, h0⟩ := strs_inv h
  obtain ⟨t1, z2, e1, h1⟩ := strs_inv h0
  obtain ⟨t2, z3, e2, h2⟩ := strs_inv h1
  obtain ⟨t3, z4, e3, h3⟩ := strs_inv h2
  rw [e0, e1, e2, e3, strs_nil h3]
  exact ⟨t0, t1, t2, t3, rfl⟩
section
variable {prog : Program} {w : World} {A : Around} {E : Value → Shared → Prop} {s : Shared} {env : Env} {h₀ : Heap} {x : Str} {body : List Stmt} {Q : Flow → Shared → Prop} {rg : Addr} {t₀ u₀ v₀ : Tok} {m₀ u : Str → Option Value} {base : List (Addr × Obj)}
/-- for x in range(4): .. that puts one text a turn behind the list r -/
theorem texts_loop {r : Addr} {n0 : Nat} (g : Nat → Str) (stored : List Str)
    (hh : A.handled = none) (hr : IsRange s.heap rg 0 4 1 t₀ u₀ v₀) (F : Fr h₀ env.locals s.heap (mix stored u m₀)) (N : News h₀ env.locals s.heap ((r, listOf #[] n0) :: base))
    (step : ∀ (i : Nat) u zs n I it t h tk, i < 4 → StrsAre zs ((List.range i).map g) → @Ne Nat I r → (∀ p ∈ base, @Ne Nat p.1 I) → Fr h₀ env.locals h (fun y => if y = x then some (.int (i : Int) t) else mix stored u m₀ y) → News h₀ env.locals h ((I, it) :: (r, listOf (List.toArray zs) n) :: base) →
      wpAny (model prog w) A (execs body env) (fun f s₂ => f = .next ∧ ∃ h' tk' m' t' n', s₂ = { s with heap := h', toks := tk' } ∧ Fr h₀ env.locals h' m' ∧ (∀ y, stored.contains y = false → m' y = m₀ y) ∧ News h₀ env.locals h' ((I, it) :: (r, listOf (List.toArray (zs ++ [.str (g i) t'])) n') :: base)) E { s with heap := h, toks := tk })
    (done : ∀ u t0 t1 t2 t3 n h tk, Fr h₀ env.locals h (mix stored u m₀) → News h₀ env.locals h ((r, listOf #[.str (g 0) t0, .str (g 1) t1, .str (g 2) t2, .str (g 3) t3] n) :: base) → Q .next { s with heap := h, toks := tk }) :
    wpAny (model prog w) A (pyIter (.ref rg)) (fun it s₂ => LoopAtV prog w A h₀ env x body Q E it s₂) E s := by
  refine range_loop (n := 4) stored hh hr (by decide) (by rfl) F N (fun i news => ∃ zs n, StrsAre zs ((List.range i).map g) ∧ news = (r, listOf (List.toArray zs) n) :: base) ⟨[], n0, .nil, rfl⟩ ?_ ?_
  · rintro i u news I it t h tk hi ⟨zs, n, hz, rfl⟩ hI F' N'
    rw [Int.zero_add] at F'
    refine wpAny_mono (step i u zs n I it t h tk hi hz (Ne.symm (hI _ (.head _))) (fun p hp => hI p (.tail _ hp)) F' N') (fun f s₂ h₂ => ?_) fun _ _ e => e
    obtain ⟨rfl, h', tk', m', t', n', rfl, F2, hm, N2⟩ := h₂
    refine ⟨rfl, h', tk', m', _, rfl, F2, hm, N2, fun p hp => ?_, _, n', ?_, rfl⟩
    · rcases List.mem_cons.mp hp with rfl | hp
      · have hr := hI _ (.head _)
        exact hr
      · exact hI p (.tail _ hp)
    · rw [List.range_succ, List.map_append]
      exact strs_snoc hz
  · rintro u news h tk ⟨zs, n, hz, rfl⟩ F' N'
    obtain ⟨t0, t1, t2, t3, rfl⟩ := strs_four (a := g 0) (b := g 1) (c := g 2) (d := g 3) hz
    exact done u t0 t1 t2 t3 n h tk F' N'
end
end
section
open PySem PySem.W PyProof.Rows PySem.Calls PySem.Builtin.Str
section
variable {prog : Program} {w : World} {A : Around} {s : Shared} {Q E : Value → Shared → Prop} {x y : Str} {t u : Tok} {c : Int}
theorem mulOk_of {x : Str} {n : Int} (h0 : -100 ≤ n) (h1 : n ≤ 100) (h : x.length ≤ 100) : MulOk x n := by
  refine ⟨by simp; omega, fun hn _ hx => ?_, fun hn _ => ?_⟩
  · have h2 : (100 : Int) ≤ (2 ^ 63 - 1) / n := by
      rw [Int.le_ediv_iff_mul_le (by omega)]; omega
    omega
  · have h3 : x.length * n.toNat ≤ 100 * 100 := Nat.mul_le_mul h (by omega)
    have : ¬ x.length * n.toNat > 2 ^ 24 := by omega
    rw [Builtin.Str.tooLong, decide_eq_false_iff_not, sizeLine_eq]; exact this
theorem mul_num (h : ∀ t' k, Q (.str (Txt.mul (numS c) 3) t') { s with toks := k }) : wpAny (model prog w) A (binaryOp .Mult (.str (Str.ofString (toString (100 + (c.fdiv 7).fmod 900))) t) (.int 3 u)) Q E s :=
  SB.mul (mulOk_of (by decide) (by decide) (by rw [show Str.ofString (toString (100 + (c.fdiv 7).fmod 900)) = numS c from rfl, num_len]; decide)) h
theorem mul_zero {n : Int} (h0 : -100 ≤ n) (h1 : n ≤ 100) (h : ∀ t' k, Q (.str (Txt.mul (Str.ofString "0") n) t') { s with toks := k }) : wpAny (model prog w) A (binaryOp .Mult (.str (Str.ofString "0") t) (.int n u)) Q E s :=
  SB.mul (mulOk_of h0 h1 (by decide)) h
theorem len_small (hx : x.length ≤ 1000) (h : Q (.int x.length (s.toks + 1)) { s with toks := s.toks + 1 + 1 }) : wpAny (model prog w) A (call (.builtin "len") [.str x t]) Q E s :=
  P.len_str (by omega) h
theorem mul_len_le (x : Str) (n : Nat) : (Txt.mul x (n : Int)).length = n * x.length := by
  rw [← len_list, mul_list, List.length_flatten, List.map_replicate, List.sum_replicate_nat, len_list]
theorem zeros_len {n : Int} (h : 0 ≤ n) : (Txt.mul (Str.ofString "0") n).length = n.toNat := by
  obtain ⟨k, rfl⟩ := Int.eq_ofNat_of_zero_le h
  have := mul_len_le (Str.ofString "0") k
  rw [show (Txt.mul (Str.ofString "0") (k : Int)).length = _ from this, show (Str.ofString "0").length = 1 from by decide]; simp
theorem add_small {x y : Str} (h : ∀ t' tk, Q (.str (x ++ y) t') { s with toks := tk }) (hx : x.length ≤ 1000) (hy : y.length ≤ 1000) : wpAny (model prog w) A (binaryOp .Add (.str x t) (.str y u)) Q E s :=
  add_str h (by rw [sizeLine_eq]; omega)
theorem add_word {k c : Int} (h : ∀ t' tk, Q (.str (wordS k c) t') { s with toks := tk }) : wpAny (model prog w) A (binaryOp .Add (.str (Txt.mul (Str.ofString "0") (if 3 + k.fmod 2 - ((figS c).length : Int) > 0 then 3 + k.fmod 2 - ((figS c).length : Int) else 0)) t) (.str (figS c) u)) Q E s :=
  have hk := fmod_range k (b := 2) (by decide)
  have hf := fig_len_le c
  add_small h (by rw [zeros_len (by split <;> omega)]; split <;> omega) (by omega)
theorem mul_word {k c : Int} (h : ∀ t' tk, Q (.str (Txt.mul (Str.ofString "0") (if 3 + k.fmod 2 - ((figS c).length : Int) > 0 then 3 + k.fmod 2 - ((figS c).length : Int) else 0)) t') { s with toks := tk }) : wpAny (model prog w) A (binaryOp .Mult (.str (Str.ofString "0") t) (.int (if 3 + k.fmod 2 - ((figS c).length : Int) > 0 then 3 + k.fmod 2 - ((figS c).length : Int) else 0) u)) Q E s :=
  have hk := fmod_range k (b := 2) (by decide)
  have hf := fig_len_le c
  mul_zero (by split <;> omega) (by split <;> omega) h
theorem item_N {h₀ : Heap} {L l : Addr} {news : List (Addr × Obj)} {its : Array Value} {n : Nat} {k : Int} {v : Value} {value slice : Expr} (N : News h₀ L s.heap news) (hm : (l, listOf its n) ∈ news) (h0 : 0 ≤ k) (hhi : k < 2 ^ 63) (hx : its[k.toNat]? = some v) (h : Q v s)
    (hs : subscripted slice false (.ref l) (.int k u) = operate [.ref l, .int k u] (getItem (.ref l) (.int k u)) := by with_unfolding_all rfl) :
    wpAny (model prog w) A (subscriptTail value slice (.ref l) (.int k u)) Q E s :=
  have hL : s.heap.IsList l its := N.isList hm
  tail_any hL.typeIs slot_list_getitem.lookup (wpAny_getItem_list hL h0 hhi hx h) hs
theorem item_cells {h₀ : Heap} {L l : Addr} {news : List (Addr × Obj)} {cs : Int → Int} {t0 t1 t2 t3 : Tok} {n i : Nat} {value slice : Expr} (N : News h₀ L s.heap news) (hm : (l, listOf #[.int (cs 0) t0, .int (cs 1) t1, .int (cs 2) t2, .int (cs 3) t3] n) ∈ news) (hi : i < 4)
    (h : ∀ t, Q (.int (cs (i : Int)) t) s) (hs : subscripted slice false (.ref l) (.int (i : Int) u) = operate [.ref l, .int (i : Int) u] (getItem (.ref l) (.int (i : Int) u)) := by with_unfolding_all rfl) :
    wpAny (model prog w) A (subscriptTail value slice (.ref l) (.int (i : Int) u)) Q E s := by
  match i, hi with
  | 0, _ => exact item_N N hm (by decide) (by decide) rfl (h t0) hs
  | 1, _ => exact item_N N hm (by decide) (by decide) rfl (h t1) hs
  | 2, _ => exact item_N N hm (by decide) (by decide) rfl (h t2) hs
  | 3, _ => exact item_N N hm (by decide) (by decide) rfl (h t3) hs
theorem four_room (ns : List Int) (k : Nat) : (List.take 4 ns).length + (List.drop k [785, 789, 786, (786 : Int)]).length ≤ sizeLine := by
  rw [sizeLine_eq, List.length_take, List.length_drop]
  simp only [List.length_cons, List.length_nil]; omega
theorem four_ints {ws : List Value} {ns : List Int} (h : IntsAre ws (List.take 4 ns ++ List.drop (((List.take 4 ns).length : Nat) : Int).toNat [785, 789, 786, 786])) :
    ∃ (cs : Int → Int) (t0 t1 t2 t3 : Tok), ws = [.int (cs 0) t0, .int (cs 1) t1, .int (cs 2) t2, .int (cs 3) t3] := by
  have hl : (List.take 4 ns ++ List.drop (((List.take 4 ns).length : Nat) : Int).toNat [785, 789, 786, 786]).length = 4 := by
    rw [List.length_append, List.length_drop, List.length_take, Int.toNat_natCast]
    simp only [List.length_cons, List.length_nil]; omega
  generalize List.take 4 ns ++ List.drop (((List.take 4 ns).length : Nat) : Int).toNat [785, 789, 786, 786] = ms at h hl
  cases h with
  | nil => cases hl
  | cons c0 t0 h => cases h with
    | nil => cases hl
    | cons c1 t1 h => cases h with
      | nil => cases hl
      | cons c2 t2 h => cases h with
        | nil => cases hl
        | cons c3 t3 h => cases h with
          | nil => exact ⟨fun k => if k = 0 then c0 else if k = 1 then c1 else if k = 2 then c2 else c3, t0, t1, t2, t3, rfl⟩
          | cons c4 t4 h => simp at hl
end
variable {w : World} {A : Around} {s s' : Shared} {p : Program} {loose : List Str} {mean : ExcName → Option Value} {mg mb : Str → Option Value} {Q E : Value → Shared → Prop}
local macro_rules | `(tactic| walk_at "none") => `(tactic| skip)
local macro_rules | `(tactic| walk_at "binaryOp Add ref ref") => `(tactic| (k_here; (with_reducible show wpAny _ _ (binaryOp _ (Value.ref _) (Value.ref _)) _ _ _); k_dflt (refine' kmk_add_ints ?F ?N ?a ?b ?i ?j ?_ ?z; (case F => k_asm); (case N => k_asm); (case a => kmk_list); (case b => kmk_list); (case i => l_ints); (case j => l_ints); (case z => exact four_room _ _)); intro D' ws' h' F' N' l1 hI'; (try k_lt l1); (try k_sweep); (obtain ⟨cs', t0', t1', t2', t3', e'⟩ := four_ints hI'); subst e'; clear hI'))
local macro_rules | `(tactic| walk_at "subscriptTail Name Slice ref ref") => `(tactic| ((with_reducible show wpAny _ _ (subscriptTail _ (PySem.Expr.Slice (some _) none none _) (Value.ref _) (Value.ref _)) _ _ _); k_dflt (refine' kmk_slice_ints ?F ?N ?l ?p ?q ?i ?m ?c ?_ ?s ?t ?z; (case F => k_asm); (case N => k_asm); (case l => kmk_list); (case p => kmk_part); (case q => kmk_part); (case i => exact .cons _ _ (.cons _ _ (.cons _ _ (.cons _ _ .nil)))); (case m => exact kmk_from (.cons _ _ (.cons _ _ (.cons _ _ (.cons _ _ .nil)))) (Int.natCast_nonneg _)); (case c => exact rfl); (case s => with_unfolding_all rfl); (case t => kmk_pure); (case z => exact Nat.le_of_ble_eq_true rfl)); intro D' ws' h' F' N' l1 hI' hC' hL'; clear hC' hL'; (try k_lt l1); (try k_sweep)))
local macro_rules | `(tactic| walk_at "execs cons") => `(tactic| ((try dsimp only); (with_reducible refine wpAny_execs_cons ?_); try dsimp only))
local macro_rules | `(tactic| walk_at "m_step") => `(tactic| first | (k_unfold; (try dsimp only)) | walk1 | (dsimp only; walk1))
local macro_rules | `(tactic| walk_at "binaryOp Mult str int") => `(tactic| first
  | (refine mul_num ?_; intro t' k')
  | (refine mul_word ?_; intro t' k'))
local macro_rules | `(tactic| walk_at "subscriptTail Name Name ref int") => `(tactic| (k_dflt (refine item_cells (by k_asm) (by k_mem) (by assumption) ?_); intro t'))
local macro_rules | `(tactic| size_fits) => `(tactic| assumption)
local macro_rules | `(tactic| walk_at "subscriptTail") => `(tactic| ((with_reducible show wpAny _ _ (subscriptTail _ (Expr.Slice none (some _) none _) (Value.str _ _) _) _ _ _); (with_reducible rename Fr _ _ _ _ => F'); (with_reducible rename News _ _ _ _ => N'); (refine slice_strN_ns (hsz := ?hsz) (s := ⟨_, _, _, _, _⟩) F' N' ?_); (case hsz => (rw [mul_num_len]; decide)); intro h' t' k' F' N'; (try dsimp only); (rw [show Txt.slice (Txt.mul (numS _) 3) none (some (1 + _)) = figS _ from rfl])))
local macro_rules | `(tactic| walk_at "binaryOp Add str str") => `(tactic| (dsimp only; refine add_word ?_; intro t' k'; (try dsimp only)))
local macro_rules | `(tactic| walk_at "call builtin:max") => `(tactic| (refine max_two_N (by rfl) (by assumption) (by assumption) ?_; intro h' tk' F' N'; (have hfl' := fig_len_le)))
local macro_rules | `(tactic| walk_at "call builtin:len") => `(tactic| (refine len_small (by (have hfl' := fig_len_le); first | exact Nat.le_trans (fig_len_le _).2 (by decide)) ?_))
set_option maxHeartbeats 4000000 in
set_option maxRecDepth 100000 in
theorem words_call {l : Addr} {vs : List Value} {ns : List Int} (hroom : A.depth + 1 < recursionLimit) (hhA : A.handled = none)
    (hl : s.heap.IsList l vs.toArray) (hi : IntsAre vs ns) (hlen : ns.length ≤ 63)
    (X : (hd.heap_39 w.params).In s.heap) (T : Top p loose mean mg mb s.heap) (hQ : ∀ c0 c1 c2 c3 l n t0 t1 t2 t3 h' tk', Grows s.heap h' → s.heap.get? l = none → h'.get? l = some (listOf #[.str (wordS 0 c0) t0, .str (wordS 1 c1) t1, .str (wordS 2 c2) t2, .str (wordS 3 c3) t3] n) → Q (.ref l) { s with heap := h', toks := tk' }) : wpAny (model Challenge.rw_zd0002_01.row.prog w) A (call (.ref 86) [.ref l]) Q E s := by
  obtain ⟨hd0, dp, fr, gd, un⟩ := A
  obtain rfl : hd0 = none := hhA
  revert X; k_fill; intro X
  refine' enter (binds := [(Str.ofString "script", .ref l)]) X T ?k6 ?k7 (by show dp < _; have : dp + 1 < recursionLimit := hroom; omega) ?k9 ?kB ?_ ?c5 ?c2 ?c3 ?c4
  walk_at "m_enter"
  iterate 60 (walk_at "m_step")
  (rename IsRange _ _ _ _ _ _ _ _ => R')
  (with_reducible rename Fr _ _ _ _ => F1); (with_reducible rename News _ _ _ _ => N1)
  rename Int → Int => cs
  refine texts_loop (fun q => wordS (q : Int) (cs (q : Int))) [Str.ofString "i", Str.ofString "figures"] (by rfl) R' (fr_mix _ F1) N1 ?step ?done
  case step =>
    clear F1 N1 R' hQ
    intro i u zs n I it t h tk hi hz nI hbI F3 N3
    have hsz : (List.toArray zs).size ≤ sizeLine := by
      rw [List.size_toArray, hz.length, List.length_map, List.length_range, sizeLine_eq]; omega
    (simp only [List.forall_mem_cons, List.not_mem_nil, false_implies, implies_true, and_true] at hbI)
    iterate 82 (walk_at "m_step")
    (with_reducible rename Fr _ _ _ _ => Fe); (with_reducible rename News _ _ _ _ => Ne); (simp only [List.push_toArray] at Ne)
    exact ⟨rfl, _, _, _, _, _, rfl, Fe, fun y hy => off_one hy (by decide) (off_one hy (by decide) (mix_off hy)), Ne⟩
  case done =>
    intro u t0 t1 t2 t3 n h tk F3 N3
    iterate 3 (walk_at "m_step")
    (try dsimp only); exact hQ (cs 0) (cs 1) (cs 2) (cs 3) _ _ t0 t1 t2 t3 _ _ F3.keep (N3 _ (.head _)).2.2 (N3.get (.head _))
end
end Mine
end
section
open PySem PySem.W PyProof.Rows PySem.Calls PyProof.Rows.LCg
open Sem (wp)
namespace Mine
section
variable {prog : Program} {w : World} {A : Around} {E : Value → Shared → Prop} {R : Result → Shared → Prop} {s : Shared} {env : Env}

theorem turn_outer (elt t0 i0 t1 i1 : Expr) (scope : Scope) (pos : Pos) (it acc : Value) (env : Env) :
    compTurn (.ListComp elt [⟨t0, i0, [], 0⟩, ⟨t1, i1, [], 0⟩] scope pos) 0 it acc env = (standAt i0.pos >>= fun _ => pyNext it >>= fun r => match r with
      | none => pure (.done .next)
      | some v => letOwnedTupleGo t0 it v >>= fun _ => assign t0 env v >>= fun _ =>
        (eval i1 env >>= fun x => standAt i1.pos >>= fun _ => foldedSetIterable i1 env x >>= fun x => holding [x] (pyIter x) >>= fun it' => runOwn (.compStart (.ListComp elt [⟨t0, i0, [], 0⟩, ⟨t1, i1, [], 0⟩] scope pos) 1 it' acc env) env >>= fun _ =>
          again (.compLoop (.ListComp elt [⟨t0, i0, [], 0⟩, ⟨t1, i1, [], 0⟩] scope pos) 0 it acc env))) := by rfl
theorem turn_inner (elt t0 i0 t1 i1 : Expr) (scope : Scope) (pos : Pos) (it acc : Value) (env : Env) :
    compTurn (.ListComp elt [⟨t0, i0, [], 0⟩, ⟨t1, i1, [], 0⟩] scope pos) 1 it acc env = (standAt i1.pos >>= fun _ => pyNext it >>= fun r => match r with
      | none => pure (.done .next)
      | some v => letOwnedTupleGo t1 it v >>= fun _ => assign t1 env v >>= fun _ =>
        (eval elt env >>= fun x => call (.builtin "list.append") [acc, x] >>= fun _ => pure ()) >>= fun _ =>
          again (.compLoop (.ListComp elt [⟨t0, i0, [], 0⟩, ⟨t1, i1, [], 0⟩] scope pos) 1 it acc env)) := by rfl

theorem inner_start {elt t0 i0 t1 i1 : Expr} {scope : Scope} {pos : Pos} {it acc : Value}
    (h0 : codeAny (model prog w) A (.compLoop (.ListComp elt [⟨t0, i0, [], 0⟩, ⟨t1, i1, [], 0⟩] scope pos) 1 it acc env) R s)
    (h : wpAny (model prog w) A (pyIter it) (fun it' s' => codeAny (model prog w) A (.compLoop (.ListComp elt [⟨t0, i0, [], 0⟩, ⟨t1, i1, [], 0⟩] scope pos) 1 it' acc env) R s')
      (notedBy (model prog w) A env fun x s' => R (.error x) s') s) :
    codeAny (model prog w) A (.compStart (.ListComp elt [⟨t0, i0, [], 0⟩, ⟨t1, i1, [], 0⟩] scope pos) 1 it acc env) R s := by
  refine codeAny_of_tree ?_
  show wpAny _ _ ((compStart (.ListComp elt [⟨t0, i0, [], 0⟩, ⟨t1, i1, [], 0⟩] scope pos) 1 it acc env).onRaise (fun x => do noteFrame x env; standAt theWindowsPlace)) _ _ s
  refine wpAny_notedAt ?_
  unfold compStart
  show wpAny _ _ (ask >>= _) _ _ s
  refine wpAny_bind (wpAny_askSetting (wpAny_ite ?_))
  split
  · first
      | exact wpAny_bind (wpAny_pure (wpAny_pure (And.intro rfl h0)))
      | exact wpAny_pure (And.intro rfl h0)
  · refine wpAny_bind (wpAny_rule ?_); show wpAny _ _ (standAt i1.pos >>= _) _ _ s; exact wpAny_bind (wpAny_standAt (wpAny_bind (wpAny_mono h (fun it' s' h' => wpAny_pure (And.intro rfl h')) fun _ _ x => x)))

theorem inner_loop {elt t0 i0 t1 i1 : Expr} {scope : Scope} {pos : Pos} {it acc : Value} (I : Nat → Shared → Prop)
    (turn : ∀ n s, I n s → wpAny (model prog w) A (pyNext it) (fun r s₁ => match r with
      | none => R (.ok .next) s₁
      | some v => wpAny (model prog w) A (assign t1 env v) (fun _ s₂ => wpAny (model prog w) A (eval elt env) (fun x s₃ =>
          wpAny (model prog w) A (call (.builtin "list.append") [acc, x]) (fun _ s₄ => ∃ m, m < n ∧ I m s₄) (notedBy (model prog w) A env fun e s' => R (.error e) s') s₃)
          (notedBy (model prog w) A env fun e s' => R (.error e) s') s₂) (notedBy (model prog w) A env fun e s' => R (.error e) s') s₁) (notedBy (model prog w) A env fun e s' => R (.error e) s') s)
    (n : Nat) (h : I n s) (ht : ∀ v, letOwnedTupleGo t1 it v = pure () := by intro _; rfl) :
    codeAny (model prog w) A (.compLoop (.ListComp elt [⟨t0, i0, [], 0⟩, ⟨t1, i1, [], 0⟩] scope pos) 1 it acc env) R s := by
  refine codeAny_loop rfl I (fun n s hI => ?_) n h
  show wpAny _ _ ((compTurn (.ListComp elt [⟨t0, i0, [], 0⟩, ⟨t1, i1, [], 0⟩] scope pos) 1 it acc env).onRaise (fun x => do noteFrame x env; theTreesLotGoes x)) _ _ s
  refine wpAny_noted ?_
  rw [turn_inner]
  refine wpAny_bind (wpAny_standAt (wpAny_bind (wpAny_mono (turn n s hI) (fun r s₁ h₁ => ?_) fun _ _ h' => h')))
  cases r with
  | none => exact wpAny_pure h₁
  | some v =>
    refine wpAny_bind (wpAny_of_eq (ht v) ?_)
    exact wpAny_bind (wpAny_mono h₁ (fun _ s₂ h₂ => wpAny_bind (wpAny_bind (wpAny_mono h₂ (fun x s₃ h₃ => wpAny_bind (wpAny_mono h₃
      (fun _ s₄ h₄ => wpAny_pure (wpAny_pure ⟨rfl, h₄⟩)) fun _ _ h' => h')) fun _ _ h' => h'))) fun _ _ h' => h')
theorem outer_loop {elt t0 i0 t1 i1 : Expr} {scope : Scope} {pos : Pos} {it acc : Value} (I : Nat → Shared → Prop)
    (turn : ∀ n s (E' : Value → Shared → Prop), I n s → wpAny (model prog w) A (pyNext it) (fun r s₁ => match r with
      | none => R (.ok .next) s₁
      | some v => wpAny (model prog w) A (assign t0 env v) (fun _ s₂ => wpAny (model prog w) A (eval i1 env) (fun x s₃ => wpAny (model prog w) A (pyIter x) (fun it' s₄ =>
          codeAny (model prog w) A (.compStart (.ListComp elt [⟨t0, i0, [], 0⟩, ⟨t1, i1, [], 0⟩] scope pos) 1 it' acc env) (fun r s₅ => match r with | .ok _ => ∃ m, m < n ∧ I m s₅ | .error _ => False) s₄) E' s₃)
          E' s₂) E' s₁) E' s)
    (n : Nat) (h : I n s) (ht : ∀ v, letOwnedTupleGo t0 it v = pure () := by intro _; rfl) (hs : ∀ x, foldedSetIterable i1 env x = pure x := by intro _; rfl) :
    codeAny (model prog w) A (.compLoop (.ListComp elt [⟨t0, i0, [], 0⟩, ⟨t1, i1, [], 0⟩] scope pos) 0 it acc env) R s := by
  refine codeAny_loop rfl I (fun n s hI => ?_) n h
  show wpAny _ _ ((compTurn (.ListComp elt [⟨t0, i0, [], 0⟩, ⟨t1, i1, [], 0⟩] scope pos) 0 it acc env).onRaise (fun x => do noteFrame x env; theTreesLotGoes x)) _ _ s
  refine wpAny_noted ?_
  rw [turn_outer]
  refine wpAny_bind (wpAny_standAt (wpAny_bind (wpAny_mono (turn n s _ hI) (fun r s₁ h₁ => ?_) fun _ _ h' => h')))
  cases r with
  | none => exact wpAny_pure h₁
  | some v =>
    refine wpAny_bind (wpAny_of_eq (ht v) ?_)
    refine wpAny_bind (wpAny_mono h₁ (fun _ s₂ h₂ => wpAny_bind (wpAny_mono h₂ (fun x s₃ h₃ => wpAny_bind (wpAny_standAt (wpAny_bind (wpAny_of_eq (hs x) (wpAny_bind (wpAny_holding (wpAny_mono h₃
      (fun it' s₄ h₄ => wpAny_bind (wpAny_runOwn ?_)) fun _ _ h' => h'))))))) fun _ _ h' => h')) fun _ _ h' => h')
    rw [Around.mark_none]
    refine codeAny_mono h₄ fun r s₅ h₅ => ?_
    cases r with
    | ok f => exact wpAny_pure ⟨rfl, h₅⟩
    | error e => exact h₅.elim
end
end Mine
end
section
open PySem PySem.W PyProof.Rows PySem.Calls PyProof.Rows.LCg
open Sem (wp)
namespace Mine
def OrdAt (rest : List (Addr × Obj)) (y : Value) (o : List Int) : Prop := ∃ a vs n, y = .ref a ∧ (a, listOf (List.toArray vs) n) ∈ rest ∧ IntsAre vs o
def Ords (rest : List (Addr × Obj)) : List Value → List (List Int) → Prop
  | [], [] => True
  | y :: ys, o :: os => OrdAt rest y o ∧ Ords rest ys os
  | _, _ => False
theorem OrdAt.mono {r r' : List (Addr × Obj)} {y : Value} {o : List Int} (h : OrdAt r y o) (k : ∀ p ∈ r, p ∈ r') : OrdAt r' y o := let ⟨a, vs, n, e, hm, hi⟩ := h; ⟨a, vs, n, e, k _ hm, hi⟩
theorem Ords.mono {r r' : List (Addr × Obj)} (k : ∀ p ∈ r, p ∈ r') : ∀ {ys : List Value} {os : List (List Int)}, Ords r ys os → Ords r' ys os
  | [], [], _ => trivial
  | _ :: _, _ :: _, h => ⟨h.1.mono k, Ords.mono k h.2⟩
theorem Ords.len {r : List (Addr × Obj)} : ∀ {ys : List Value} {os : List (List Int)}, Ords r ys os → ys.length = os.length
  | [], [], _ => rfl
  | _ :: _, _ :: _, h => by rw [List.length_cons, List.length_cons, Ords.len h.2]
theorem Ords.snoc {r : List (Addr × Obj)} {y : Value} {o : List Int} (hy : OrdAt r y o) : ∀ {ys : List Value} {os : List (List Int)}, Ords r ys os → Ords r (ys ++ [y]) (os ++ [o])
  | [], [], _ => ⟨hy, trivial⟩
  | _ :: _, _ :: _, h => ⟨h.1, Ords.snoc hy h.2⟩
theorem Ords.at {r : List (Addr × Obj)} : ∀ {ys : List Value} {os : List (List Int)} (j : Nat), Ords r ys os → j < ys.length → ∃ y o, ys[j]? = some y ∧ os[j]? = some o ∧ OrdAt r y o
  | y :: _, o :: _, 0, h, _ => ⟨y, o, rfl, rfl, h.1⟩
  | _ :: _, _ :: _, j + 1, h, hj => by
    obtain ⟨y, o, h1, h2, h3⟩ := Ords.at j h.2 (Nat.lt_of_succ_lt_succ hj)
    exact ⟨y, o, h1, h2, h3⟩
  | [], _, _, _, hj => by cases hj
  | _ :: _, [], _, h, _ => h.elim
def ins (k : Int) (o : List Int) (i : Nat) : List Int := o.take i ++ [k] ++ o.drop i
def insAll (k : Int) (o : List Int) : List (List Int) := (List.range (o.length + 1)).map (ins k o)
def Off4 (I J C D : Addr) (l : List (Addr × Obj)) : Prop := ∀ p ∈ l, p.1 ≠ I ∧ p.1 ≠ J ∧ p.1 ≠ C ∧ p.1 ≠ D
section
variable {prog : Program} {w : World} {A : Around} {E : Value → Shared → Prop} {s : Shared} {h₀ : Heap} {L : Addr} {m : Str → Option Value} {env : Env}

def RangeFor (prog : Program) (w : World) (A : Around) (h₀ : Heap) (L : Addr) (m : Str → Option Value) (env : Env) (i1 : Expr) (x : Str) (scope : Scope) (cl : List (Str × Addr)) : Prop :=
  ∀ (s : Shared) a vs n (o : List Int) rest I oI C oC D oD m₂ h tk (E' : Value → Shared → Prop), o.length ≤ 3 → NsObj oC m₂ → m₂ x = some (.ref a) → IntsAre vs o → Fr h₀ L h m → News h₀ L h ((a, listOf (List.toArray vs) n) :: (I, oI) :: (C, oC) :: (D, oD) :: rest) →
    wpAny (model prog w) A (eval i1 (compEnvC scope cl C env)) (fun r s₁ => ∃ ra t u v h' tk', r = .ref ra ∧ s₁ = { s with heap := h', toks := tk' } ∧ Fr h₀ L h' m ∧ News h₀ L h' ((a, listOf (List.toArray vs) n) :: (I, oI) :: (C, oC) :: (D, oD) :: rest) ∧ IsRange h' ra 0 ((o.length : Int) + 1) 1 t u v) E' { s with heap := h, toks := tk }
def EltFor (prog : Program) (w : World) (A : Around) (h₀ : Heap) (L : Addr) (m : Str → Option Value) (env : Env) (elt : Expr) (x z : Str) (scope : Scope) (cl : List (Str × Addr)) (kc : Addr) (oK : Obj) (k : Int) : Prop :=
  ∀ (s : Shared) a vs n (o : List Int) (i : Nat) t rest I oI J oJ C oC D oD m₂ h tk (E' : Value → Shared → Prop), o.length ≤ 3 → i ≤ o.length → NsObj oC m₂ → m₂ x = some (.ref a) → m₂ z = some (.int (i : Int) t) → IntsAre vs o → Fr h₀ L h m →
    News h₀ L h ((I, oI) :: (J, oJ) :: (C, oC) :: (D, oD) :: (a, listOf (List.toArray vs) n) :: (kc, oK) :: rest) →
    wpAny (model prog w) A (eval elt (compEnvC scope cl C env)) (fun y s₁ => ∃ a' vs' h' tk', y = .ref a' ∧ s₁ = { s with heap := h', toks := tk' } ∧ Fr h₀ L h' m ∧
      News h₀ L h' ((a', listOf (List.toArray vs') 0) :: (I, oI) :: (J, oJ) :: (C, oC) :: (D, oD) :: (a, listOf (List.toArray vs) n) :: (kc, oK) :: rest) ∧ (∀ p ∈ (I, oI) :: (J, oJ) :: (C, oC) :: (D, oD) :: (a, listOf (List.toArray vs) n) :: (kc, oK) :: rest, @LT.lt Nat _ p.1 a') ∧ IntsAre vs' (ins k o i)) E' { s with heap := h, toks := tk }

theorem range_facts (n : Nat) (hn : n ≤ 3) : Builtin.Range.small 0 ((n : Int) + 1) 1 = true ∧ Builtin.Range.rangeSize 0 ((n : Int) + 1) 1 = (((n + 1 : Nat) : Nat) : Int) := by
  match n, hn with
  | 0, _ => exact ⟨by decide, by decide⟩
  | 1, _ => exact ⟨by decide, by decide⟩
  | 2, _ => exact ⟨by decide, by decide⟩
  | 3, _ => exact ⟨by decide, by decide⟩

theorem inner_block {elt i0 i1 : Expr} {x z : Str} {px pz : Pos} {scope : Scope} {cl : List (Str × Addr)} {pos : Pos} {s₂ : Shared} {I J C D a kc : Addr} {oI oK : Obj} {k : Int} {vs : List Value} {n : Nat} {o : List Int} {new base : List (Addr × Obj)} {ys : List Value} {os : List (List Int)} {h₁ : Heap} {tk : Nat} {m₁ : Str → Option Value}
    (hh : A.handled = none) (H2 : EltFor prog w A h₀ L m env elt x z scope cl kc oK k) (ho3 : o.length ≤ 3) (hvs : IntsAre vs o) (hxz : x ≠ z) (hsz : os.length ≤ 100)
    (hkind : scope.kind = .function) (hz : scope.names.lookup z = some .local)
    (hit : IsRangeIter h₁ J 0 ((o.length : Int) + 1) 1) (F : Fr h₀ L h₁ m) (hI : h₁.get? I = some oI) (hI₀ : h₀.get? I = none) (hJ₀ : h₀.get? J = none) (hC₀ : h₀.get? C = none) (hD₀ : h₀.get? D = none)
    (hn : h₁.Ns C m₁) (hmx : m₁ x = some (.ref a)) (N : News h₀ L h₁ ((D, lst ys) :: (new ++ base))) (hL : I ≠ L ∧ J ≠ L ∧ C ≠ L ∧ D ≠ L) (hne : I ≠ J ∧ I ≠ C ∧ I ≠ D ∧ J ≠ C ∧ J ≠ D ∧ C ≠ D)
    (off : Off4 I J C D (new ++ base)) (ha : (a, listOf (List.toArray vs) n) ∈ base) (hk : (kc, oK) ∈ base) (hO : Ords new ys os) (hlow : ∀ p ∈ new, ∀ q ∈ base, @LT.lt Nat _ q.1 p.1)
    {R : Result → Shared → Prop}
    (hR : ∀ h' tk' m' ys' new', (∀ p ∈ new', ∀ q ∈ base, @LT.lt Nat _ q.1 p.1) → Fr h₀ L h' m → h'.get? I = some oI → h'.Ns C m' → News h₀ L h' ((D, lst ys') :: (new' ++ base)) → Off4 I J C D (new' ++ base) → Ords new' ys' (os ++ insAll k o) → R (.ok .next) { s₂ with heap := h', toks := tk' }) :
    codeAny (model prog w) A (.compLoop (.ListComp elt [⟨.Name x px, i0, [], 0⟩, ⟨.Name z pz, i1, [], 0⟩] scope pos) 1 (.ref J) (.ref D) (compEnvC scope cl C env)) R { s₂ with heap := h₁, toks := tk } := by
  have W := range_walks (prog := prog) (w := w) (I := J) hh 0 (o.length + 1)
  refine inner_loop (fun q s' => ∃ h' tk i ys' m' new', s' = { s₂ with heap := h', toks := tk } ∧ i ≤ o.length + 1 ∧ q = o.length + 1 + 1 - i ∧ IsRangeIter h' J (0 + (i : Int) * 1) (((o.length + 1 : Nat) : Int) - (i : Int)) 1 ∧ (∀ p ∈ new', ∀ q ∈ base, @LT.lt Nat _ q.1 p.1) ∧ Fr h₀ L h' m ∧ h'.get? I = some oI ∧ h'.Ns C m' ∧ m' x = some (.ref a) ∧
    News h₀ L h' ((D, lst ys') :: (new' ++ base)) ∧ Off4 I J C D (new' ++ base) ∧ Ords new' ys' (os ++ (List.range i).map (ins k o))) ?_ (o.length + 1 + 1)
    ⟨h₁, tk, 0, ys, m₁, new, rfl, Nat.zero_le _, rfl, by simpa using hit, hlow, F, hI, hn, hmx, N, off, by simpa using hO⟩
  rintro q s' ⟨h', tk, i, ys', m', new', rfl, hi, rfl, hit', hlow', F', hI', hn', hmx', N', off', hO'⟩
  have hb : ∀ p ∈ base, p ∈ new' ++ base := fun p hp => List.mem_append_right _ hp
  have hR' := hR
  obtain ⟨rest', hrest'⟩ : ∃ r, r = new' ++ base := ⟨_, rfl⟩
  rw [← hrest'] at N' off' hb
  by_cases hlt : i < o.length + 1
  · refine W.item i _ _ _ hlt hit' fun v h₂ tk₂ hP hst₂ hk₂ => ?_
    obtain ⟨t, rfl⟩ := hP
    have hk₂' : ∀ b o', b ≠ J → h'.get? b = some o' → h₂.get? b = some o' := fun b o' hb e => hk₂ b o' (by simpa using hb) e
    refine wpAny_assign_Name (wpAny_storeName_local (lookup_relabel_local hz) (hn'.at' fun o e => hk₂' _ o (Ne.symm hne.2.2.2.1) e) (fun h₃ hn₃ hs₃ => ?_) (by simp [compEnvC, relabel, hkind]))
    obtain ⟨oC, heC, hoC⟩ := ns_obj hn₃
    have F₃ : Fr h₀ L h₃ m := (fr_but F' hk₂ (Ne.symm hL.2.1) hJ₀).change hs₃ hL.2.2.1 hC₀
    have up₃ : ∀ b o', b ≠ J → b ≠ C → h'.get? b = some o' → h₃.get? b = some o' := fun b o' hb hc e => hs₃.extBut b o' hc (hk₂' b o' hb e)
    have hI₃ : h₃.get? I = some oI := up₃ _ _ hne.1 hne.2.1 hI'
    have zJ : IsRangeIter h₃ J (0 + ((i + 1 : Nat) : Int) * 1) (((o.length + 1 : Nat) : Int) - ((i + 1 : Nat) : Int)) 1 := hs₃.extBut _ _ hne.2.2.2.1 hst₂
    obtain ⟨oJ, eJ, hoJ⟩ : ∃ oJ, h₃.get? J = some oJ ∧ ∀ h : Heap, h.get? J = some oJ → IsRangeIter h J (0 + ((i + 1 : Nat) : Int) * 1) (((o.length + 1 : Nat) : Int) - ((i + 1 : Nat) : Int)) 1 := ⟨_, zJ, fun _ e => e⟩
    have N₃ : News h₀ L h₃ ((D, lst ys') :: rest') := fun p hp => by
      have z := N' p hp
      refine ⟨up₃ _ _ ?_ ?_ z.1, z.2⟩
      · rcases List.mem_cons.mp hp with rfl | hp
        · exact Ne.symm hne.2.2.2.2.1
        · exact (off' p hp).2.1
      · rcases List.mem_cons.mp hp with rfl | hp
        · exact Ne.symm hne.2.2.2.2.2
        · exact (off' p hp).2.2.1
    have zk := hb _ hk
    have za := hb _ ha
    refine wpAny_mono (H2 s₂ a vs n o i t rest' I oI J oJ C oC D (lst ys') _ h₃ _ _ ho3 (by omega) hoC (by simp [hxz, hmx']) (by simp) hvs F₃ (fun p hp => ?_)) (fun y s₄ h₄ => ?_) fun _ _ e => e
    · rcases List.mem_cons.mp hp with rfl | hp
      · exact ⟨hI₃, hL.1, hI₀⟩
      rcases List.mem_cons.mp hp with rfl | hp
      · exact ⟨eJ, hL.2.1, hJ₀⟩
      rcases List.mem_cons.mp hp with rfl | hp
      · exact ⟨heC, hL.2.2.1, hC₀⟩
      rcases List.mem_cons.mp hp with rfl | hp
      · exact N₃ _ (.head _)
      rcases List.mem_cons.mp hp with rfl | hp
      · exact N₃ _ (.tail _ za)
      rcases List.mem_cons.mp hp with rfl | hp
      · exact N₃ _ (.tail _ zk)
      · exact N₃ _ (.tail _ hp)
    · obtain ⟨a', vs', h₄, tk₄, rfl, rfl, F₄, N₄, ha'', hi'⟩ := h₄
      have ha' : a' ≠ I ∧ a' ≠ J ∧ a' ≠ C ∧ a' ≠ D := ⟨Nat.ne_of_gt (ha'' (I, oI) (by simp)), Nat.ne_of_gt (ha'' (J, oJ) (by simp)), Nat.ne_of_gt (ha'' (C, oC) (by simp)), Nat.ne_of_gt (ha'' (D, lst ys') (by simp))⟩
      have zD : h₄.get? D = some (lst ys') := (N₄ (D, lst ys') (by simp)).1
      have hlen : ys'.length ≤ 104 := by
        have := hO'.len
        rw [List.length_append, List.length_map, List.length_range] at this
        omega
      refine append_at (hsz := by show ys'.toArray.size ≤ sizeLine; rw [List.size_toArray, sizeLine_eq]; omega) zD fun h₅ hs₅ hD₅ => ?_
      refine ⟨o.length + 1 + 1 - (i + 1), by omega, h₅, tk₄, i + 1, ys' ++ [.ref a'], _, (a', listOf (List.toArray vs') 0) :: new', rfl, hlt, rfl, hoJ _ (hs₅.extBut _ _ hne.2.2.2.2.1 (N₄ (J, oJ) (by simp)).1), fun p hp q hq => ?_, F₄.change hs₅ hL.2.2.2 hD₀,
        hs₅.extBut _ _ hne.2.2.1 (N₄ (I, oI) (by simp)).1, (hoC.ns (N₄ (C, oC) (by simp)).1).sameBut hs₅ hne.2.2.2.2.2, by simp [hxz, hmx'], fun p hp => ?_, fun p hp => ?_, ?_⟩
      · rcases List.mem_cons.mp hp with rfl | hp
        · exact ha'' q (by simp [hb q hq])
        · exact hlow' p hp q hq
      · rw [List.cons_append, ← hrest'] at hp
        rcases List.mem_cons.mp hp with rfl | hp
        · exact ⟨hD₅.trans (congrArg some (lst_snoc ys' _)), hL.2.2.2, hD₀⟩
        · rcases List.mem_cons.mp hp with rfl | hp
          · have z := N₄ (a', listOf (List.toArray vs') 0) (by simp)
            exact ⟨hs₅.extBut _ _ ha'.2.2.2 z.1, z.2⟩
          · have z := N₄ p (by simp [hp])
            exact ⟨hs₅.extBut _ _ (off' p hp).2.2.2 z.1, z.2⟩
      · rw [List.cons_append, ← hrest'] at hp
        rcases List.mem_cons.mp hp with rfl | hp
        · exact ha'
        · exact off' p hp
      · rw [List.range_succ, List.map_append, ← List.append_assoc]
        exact Ords.snoc ⟨a', vs', 0, rfl, .head _, hi'⟩ (hO'.mono fun p hp => .tail _ hp)
  · obtain rfl : i = o.length + 1 := by omega
    refine W.done _ _ _ hit' fun h₂ tk₂ hk₂ => ?_
    have hk₂' : ∀ b o', b ≠ J → h'.get? b = some o' → h₂.get? b = some o' := fun b o' hb e => hk₂ b o' (by simpa using hb) e
    refine hR h₂ tk₂ m' ys' new' hlow' (fr_but F' hk₂ (Ne.symm hL.2.1) hJ₀) (hk₂' _ _ hne.1 hI') (hn'.at' fun o e => hk₂' _ o (Ne.symm hne.2.2.2.1) e) (fun p hp => ?_) (hrest' ▸ off') hO'
    rw [← hrest'] at hp
    have z := N' p hp
    refine ⟨hk₂' _ _ ?_ z.1, z.2⟩
    rcases List.mem_cons.mp hp with rfl | hp
    · exact Ne.symm hne.2.2.2.2.1
    · exact (off' p hp).2.1
end
end Mine
end
section
open PySem PySem.W PyProof.Rows PySem.Calls PyProof.Rows.LCg
open Sem (wp)
namespace Mine
theorem insAll_len (k : Int) (o : List Int) : (insAll k o).length = o.length + 1 := by unfold insAll; rw [List.length_map, List.length_range]
section
variable {prog : Program} {w : World} {A : Around} {E : Value → Shared → Prop} {s : Shared} {h₀ : Heap} {L : Addr} {m : Str → Option Value} {env : Env}

set_option maxHeartbeats 1000000 in
theorem outer_block {elt i0 i1 : Expr} {x z : Str} {px pz : Pos} {scope : Scope} {cl : List (Str × Addr)} {pos : Pos} {s₂ : Shared} {I C D kc ax : Addr} {oK : Obj} {k : Int} {n : Nat} {rest : List (Addr × Obj)} {its : List Value} {os : List (List Int)} {h₁ : Heap} {tk : Nat} {m₁ : Str → Option Value}
    (hh : A.handled = none) (H1 : RangeFor prog w A h₀ L m env i1 x scope cl) (H2 : EltFor prog w A h₀ L m env elt x z scope cl kc oK k) (ho3 : ∀ o ∈ os, o.length ≤ 3) (hsz : ∀ j ≤ os.length, ((os.take j).flatMap (insAll k)).length ≤ 100) (hxz : x ≠ z)
    (hkind : scope.kind = .function) (hx : scope.names.lookup x = some .local) (hz : scope.names.lookup z = some .local) (hset : ∀ x env, foldedSetIterable i1 env x = pure x)
    (hit : h₁.IsListIter I ax 0) (hxI : ax ≠ I) (F : Fr h₀ L h₁ m) (hI₀ : h₀.get? I = none) (hC₀ : h₀.get? C = none) (hD₀ : h₀.get? D = none)
    (hn : h₁.Ns C m₁) (N : News h₀ L h₁ ((D, lst []) :: rest)) (hL : I ≠ L ∧ C ≠ L ∧ D ≠ L) (hne : I ≠ C ∧ I ≠ D ∧ C ≠ D)
    (off : Off3 I C D rest) (hits : (ax, listOf its.toArray n) ∈ rest) (hk : (kc, oK) ∈ rest) (hO : Ords rest its os)
    {R : Result → Shared → Prop}
    (hR : ∀ h' tk' m' ys' new', (∀ p ∈ new', ∀ q ∈ rest, @LT.lt Nat _ q.1 p.1) → Fr h₀ L h' m → h'.Ns C m' → News h₀ L h' ((D, lst ys') :: (new' ++ rest)) → (∀ p ∈ new' ++ rest, p.1 ≠ C ∧ p.1 ≠ D) → Ords new' ys' (os.flatMap (insAll k)) → R (.ok .next) { s₂ with heap := h', toks := tk' }) :
    codeAny (model prog w) A (.compLoop (.ListComp elt [⟨.Name x px, i0, [], 0⟩, ⟨.Name z pz, i1, [], 0⟩] scope pos) 0 (.ref I) (.ref D) (compEnvC scope cl C env)) R { s₂ with heap := h₁, toks := tk } := by
  have W := Walks.list (prog := prog) (w := w) hh I ax hxI its.toArray
  have hIL : (ax, listOf its.toArray n).1 ≠ I := ((Off3.mem off) _ hits).1
  refine outer_loop (fun q s' => ∃ h' tk i ys' m' new', s' = { s₂ with heap := h', toks := tk } ∧ i ≤ its.length ∧ q = its.length + 1 - i ∧ h'.IsListIter I ax i ∧ (∀ p ∈ new', ∀ q ∈ rest, @LT.lt Nat _ q.1 p.1) ∧ Fr h₀ L h' m ∧ h'.Ns C m' ∧
    News h₀ L h' ((D, lst ys') :: (new' ++ rest)) ∧ (∀ p ∈ new' ++ rest, p.1 ≠ I ∧ p.1 ≠ C ∧ p.1 ≠ D) ∧ Ords new' ys' ((os.take i).flatMap (insAll k))) ?_ (its.length + 1)
    ⟨h₁, tk, 0, [], m₁, [], rfl, Nat.zero_le _, rfl, hit, (fun p hp => absurd hp List.not_mem_nil), F, hn, N, off.mem, trivial⟩ (hs := fun x => hset x _)
  rintro q s' E' ⟨h', tk, i, ys', m', new', rfl, hi, rfl, hit', hlow, F', hn', N', off', hO'⟩
  have hb : ∀ p ∈ rest, p ∈ new' ++ rest := fun p hp => List.mem_append_right _ hp
  have hl' : h'.IsList ax its.toArray := (⟨_, (N' _ (.tail _ (hb _ hits))).1, rfl, _, rfl⟩)
  by_cases hlt : i < its.length
  · refine W.item i _ _ _ (by simpa using hlt) ⟨hit', hl'⟩ fun v h₂ tk₂ hP hst₂ hk₂ => ?_
    obtain ⟨y, o, hy, ho, a, vs, n', rfl, ha, hvs⟩ := hO.at i hlt
    have hv : v = .ref a := by
      have e : its[i]? = some v := by simpa using hP
      rw [hy] at e; exact (Option.some.inj e).symm
    subst hv
    have hk₂' : ∀ b o', b ≠ I → h'.get? b = some o' → h₂.get? b = some o' := fun b o' hb e => hk₂ b o' (by simpa using hb) e
    refine wpAny_assign_Name (wpAny_storeName_local (lookup_relabel_local hx) (hn'.at' fun o e => hk₂' _ o (Ne.symm hne.1) e) (fun h₃ hn₃ hs₃ => ?_) (by simp [compEnvC, relabel, hkind]))
    obtain ⟨oC, heC, hoC⟩ := ns_obj hn₃
    have F₃ : Fr h₀ L h₃ m := (fr_but F' hk₂ (Ne.symm hL.1) hI₀).change hs₃ hL.2.1 hC₀
    have up₃ : ∀ b o', b ≠ I → b ≠ C → h'.get? b = some o' → h₃.get? b = some o' := fun b o' hb hc e => hs₃.extBut b o' hc (hk₂' b o' hb e)
    have zI : h₃.IsListIter I ax (i + 1) := by
      obtain ⟨oi, e, r⟩ := hst₂.1
      exact ⟨oi, hs₃.extBut _ _ hne.1 e, r⟩
    obtain ⟨oI, eI, rI⟩ := id zI
    have N₃ : News h₀ L h₃ ((D, lst ys') :: (new' ++ rest)) := fun p hp => by
      have z := N' p hp
      refine ⟨up₃ _ _ ?_ ?_ z.1, z.2⟩
      · rcases List.mem_cons.mp hp with rfl | hp
        · exact Ne.symm hne.2.1
        · exact (off' p hp).1
      · rcases List.mem_cons.mp hp with rfl | hp
        · exact Ne.symm hne.2.2
        · exact (off' p hp).2.1
    have za := hb _ ha
    have ho3' : o.length ≤ 3 := ho3 o (List.mem_of_getElem? ho)
    refine wpAny_mono (H1 s₂ a vs n' o (new' ++ rest) I oI C oC D (lst ys') _ h₃ _ E' ho3' hoC (by simp) hvs F₃ (fun p hp => ?_)) (fun r s₄ h₄ => ?_) fun _ _ e => e
    · rcases List.mem_cons.mp hp with rfl | hp
      · exact N₃ _ (.tail _ za)
      rcases List.mem_cons.mp hp with rfl | hp
      · exact ⟨eI, hL.1, hI₀⟩
      rcases List.mem_cons.mp hp with rfl | hp
      · exact ⟨heC, hL.2.1, hC₀⟩
      rcases List.mem_cons.mp hp with rfl | hp
      · exact N₃ _ (.head _)
      · exact N₃ _ (.tail _ hp)
    · obtain ⟨ra, t, u, v, h₄, tk₄, rfl, rfl, F₄, N₄, hr⟩ := h₄
      obtain ⟨f1, f2⟩ := range_facts o.length ho3'
      refine wpAny_pyIter_range hr f1 ?_
      rw [f2]
      dsimp only
      have up : ∀ b o', h₄.get? b = some o' → (h₄.push { cls := .type "range_iterator", data := .fields #[rawInt 0, rawInt ((o.length + 1 : Nat) : Int), rawInt 1] }).get? b = some o' := fun b o' e => Heap.get?_push_of_some _ e
      have hJ : IsRangeIter (h₄.push { cls := .type "range_iterator", data := .fields #[rawInt 0, rawInt ((o.length + 1 : Nat) : Int), rawInt 1] }) h₄.objs.size 0 ((o.length : Int) + 1) 1 := Heap.get?_push_size _ rfl
      have hJ₀ : h₀.get? h₄.objs.size = none := next_is_new F₄
      have F₅ := F₄.keeps up
      have N₅ := N₄.grown up
      have lt : ∀ b o', h₄.get? b = some o' → b ≠ h₄.objs.size := fun b o' e => Nat.ne_of_lt (Heap.lt_size e)
      have zI₅ := N₅ (I, oI) (by simp)
      have zC₅ := N₅ (C, oC) (by simp)
      have zD₅ := N₅ (D, lst ys') (by simp)
      have nI := lt I _ (N₄ (I, oI) (by simp)).1
      have nC := lt C _ (N₄ (C, oC) (by simp)).1
      have nD := lt D _ (N₄ (D, lst ys') (by simp)).1
      have nL : L ≠ h₄.objs.size := Nat.ne_of_lt F₄.ns.lt
      have hsz' : ((os.take i).flatMap (insAll k)).length ≤ 100 := hsz i (by have := hO.len; omega)
      have loop : codeAny (model prog w) A (.compLoop (.ListComp elt [⟨.Name x px, i0, [], 0⟩, ⟨.Name z pz, i1, [], 0⟩] scope pos) 1 (.ref h₄.objs.size) (.ref D) (compEnvC scope cl C env))
          (fun (r : Result) s₅ => match r with | .ok _ => (∃ m_1, m_1 < its.length + 1 - i ∧ ∃ h' tk i ys' m' new', s₅ = { s₂ with heap := h', toks := tk } ∧ i ≤ its.length ∧ m_1 = its.length + 1 - i ∧ h'.IsListIter I ax i ∧ (∀ p ∈ new', ∀ q ∈ rest, @LT.lt Nat _ q.1 p.1) ∧ Fr h₀ L h' m ∧ h'.Ns C m' ∧
    News h₀ L h' ((D, lst ys') :: (new' ++ rest)) ∧ (∀ p ∈ new' ++ rest, p.1 ≠ I ∧ p.1 ≠ C ∧ p.1 ≠ D) ∧ Ords new' ys' ((os.take i).flatMap (insAll k))) | .error _ => False)
          { s₂ with heap := h₄.push { cls := .type "range_iterator", data := .fields #[rawInt 0, rawInt ((o.length + 1 : Nat) : Int), rawInt 1] }, toks := tk₄ } := by
        refine inner_block (s₂ := s₂) (oI := oI) (ys := ys') hh H2 ho3' hvs hxz hsz' hkind hz hJ F₅ zI₅.1 hI₀ hJ₀ hC₀ hD₀ (hoC.ns zC₅.1) (by simp) (new := new') (base := rest) (fun p hp => ?_) ⟨hL.1, Ne.symm nL, hL.2.1, hL.2.2⟩ ⟨nI, hne.1, hne.2.1, Ne.symm nC, Ne.symm nD, hne.2.2⟩ (fun p hp => ?_) ha hk hO' hlow ?_
        · rcases List.mem_cons.mp hp with rfl | hp
          · exact zD₅
          · exact N₅ p (.tail _ (.tail _ (.tail _ (.tail _ hp))))
        · exact ⟨(off' p hp).1, lt _ _ (N₄ p (.tail _ (.tail _ (.tail _ (.tail _ hp))))).1, (off' p hp).2⟩
        · intro h₆ tk₆ m₆ ys₆ new₆ hlow₆ F₆ hI₆ hn₆ N₆ off₆ hO₆
          refine ⟨its.length + 1 - (i + 1), by omega, h₆, tk₆, i + 1, ys₆, m₆, new₆, rfl, hlt, rfl, ⟨oI, hI₆, rI⟩, hlow₆, F₆, hn₆, N₆, fun p hp => ⟨(off₆ p hp).1, (off₆ p hp).2.2⟩, ?_⟩
          rw [List.take_add_one, ho]
          simpa [List.flatMap_append] using hO₆
      exact inner_start loop (wpAny_pyIter_rangeiter hJ loop)
  · obtain rfl : i = its.length := by omega
    refine W.done _ _ _ (by simpa using ⟨hit', hl'⟩) fun h₂ tk₂ hk₂ => ?_
    have hk₂' : ∀ b o', b ≠ I → h'.get? b = some o' → h₂.get? b = some o' := fun b o' hb e => hk₂ b o' (by simpa using hb) e
    refine hR h₂ tk₂ m' ys' new' hlow (fr_but F' hk₂ (Ne.symm hL.1) hI₀) (hn'.at' fun o e => hk₂' _ o (Ne.symm hne.1) e) (fun p hp => ?_) (fun p hp => (off' p hp).2) ?_
    · have z := N' p hp
      refine ⟨hk₂' _ _ ?_ z.1, z.2⟩
      rcases List.mem_cons.mp hp with rfl | hp
      · exact Ne.symm hne.2.1
      · exact (off' p hp).1
    · rw [hO.len, List.take_length] at hO'
      exact hO'

theorem two_assign {elt i0 i1 : Expr} {x y z : Str} {px py pz : Pos} {scope : Scope} {cl : List (Str × Addr)} {pos spos : Pos} {Q : Flow → Shared → Prop} {kc ax : Addr} {oK : Obj} {k : Int} {n : Nat} {rest : List (Addr × Obj)} {its : List Value} {os : List (List Int)} (hLe : env.locals = L)
    (hh : A.handled = none) (F : Fr h₀ L s.heap m) (N : News h₀ L s.heap rest) (hits : (ax, listOf its.toArray n) ∈ rest) (hk : (kc, oK) ∈ rest) (hO : Ords rest its os) (hi0 : wpAny (model prog w) A (eval i0 env) (fun v s' => v = .ref ax ∧ s' = s) E s)
    (H1 : RangeFor prog w A h₀ L m env i1 x scope cl) (H2 : EltFor prog w A h₀ L m env elt x z scope cl kc oK k) (ho3 : ∀ o ∈ os, o.length ≤ 3) (hsz : ∀ j ≤ os.length, ((os.take j).flatMap (insAll k)).length ≤ 100)
    (h : ∀ D h' tk' ys' new', (∀ p ∈ new', ∀ q ∈ rest, @LT.lt Nat _ q.1 p.1) → (∀ p ∈ rest, @LT.lt Nat _ p.1 D) → Fr h₀ L h' (fun z => if z = y then some (.ref D) else m z) → News h₀ L h' ((D, lst ys') :: (new' ++ rest)) → Ords new' ys' (os.flatMap (insAll k)) → Q .next { s with heap := h', toks := tk' })
    (hsw : swapsWith (.ListComp elt [⟨.Name x px, i0, [], 0⟩, ⟨.Name z pz, i1, [], 0⟩] scope pos) (some (.Name y py)) spos.line env = pure true)
    (hclos : closureFor scope env = pure cl) (hcell : ∀ z ∈ scope.names, z.2 ≠ .cell) (hkind : scope.kind = .function)
    (hnames : ∀ z ∈ scope.names, z.2 = .local → scope.names.lookup z.1 = some .local) (hx : scope.names.lookup x = some .local) (hz : scope.names.lookup z = some .local) (hxz : x ≠ z)
    (hy : env.kindOf y = some .local) (hp : (env.scope.kind == .class || (env.scope.kind == .module && env.locals != env.globals)) = false)
    (hset : ∀ x env, foldedSetIterable i1 env x = pure x) (hs : ∀ x, foldedSetIterable i0 env x = pure x) :
    wpAny (model prog w) A (exec (.Assign [.Name y py] (.ListComp elt [⟨.Name x px, i0, [], 0⟩, ⟨.Name z pz, i1, [], 0⟩] scope pos) spos) env) Q E s := by
  subst hLe
  rw [exec_Assign_Name_used _ _ _ _ hsw]
  refine wpAny_bind (wpAny_standAt (wpAny_bind ?_))
  show wpAny _ A (do let _ ← comprehension (.ListComp elt [⟨.Name x px, i0, [], 0⟩, ⟨.Name z pz, i1, [], 0⟩] scope pos) scope env _ (newList []) false (eval i0 env) (some (assign (.Name y py) env))) _ _ s
  refine wpAny_bind (wpAny_mono (wpAny_comprehension_free (use := some (assign (.Name y py) env)) (Q := fun _ s' => Q .next s') rfl hs hclos hkind hnames
    (wpAny_mono hi0 (fun xv s₁ h₁ => ?_) fun _ _ e => e)) (fun _ s' hq => wpAny_pure (wpAny_pure hq)) fun _ _ e => e)
  obtain ⟨rfl, rfl⟩ := h₁
  have hl : s₁.heap.IsList ax its.toArray := ⟨_, (N _ hits).1, rfl, _, rfl⟩
  have hlt : ax < s₁.heap.objs.size := Heap.lt_size (N _ hits).1
  refine wpAny_pyIter_list hl ?_
  have up : ∀ b o, s₁.heap.get? b = some o → (s₁.heap.push { cls := .type "list_iterator", data := .fields #[.ref ax, .int 0 0] }).get? b = some o := fun b o e => Heap.get?_push_of_some _ e
  have hitI : (s₁.heap.push { cls := .type "list_iterator", data := .fields #[.ref ax, .int 0 0] }).IsListIter s₁.heap.objs.size ax 0 := ⟨_, Heap.get?_push_size _ rfl, rfl, rfl⟩
  have F₁ := F.keeps up
  have N₁ := N.grown up
  have hI₀ : h₀.get? s₁.heap.objs.size = none := next_is_new F
  have hIsz : s₁.heap.objs.size < (s₁.heap.push { cls := .type "list_iterator", data := .fields #[.ref ax, .int 0 0] }).objs.size := by rw [Heap.size_push]; exact Nat.lt_succ_self _
  have nLI : env.locals ≠ s₁.heap.objs.size := Nat.ne_of_lt F.ns.lt
  have offI : ∀ p ∈ rest, p.1 ≠ s₁.heap.objs.size := fun p hp => Nat.ne_of_lt (Heap.lt_size (N p hp).1)
  generalize hH1 : s₁.heap.push { cls := .type "list_iterator", data := .fields #[.ref ax, .int 0 0] } = H1' at *
  generalize s₁.heap.objs.size = I at *
  refine wpAny_newObj_type (wpAny_newFunctionEnv hcell (by intro y hy; simp at hy) (fun h₁ hns₁ hsb₁ => ?_) hkind)
  dsimp only at hns₁ hsb₁ ⊢
  have hD₀ : h₀.get? H1'.objs.size = none := next_is_new F₁
  have F₂ := F₁.push { cls := .type "list", dict := none, data := .seq ([] : List Value).toArray }
  have N₂ := News.push F₁ N₁ { cls := .type "list", dict := none, data := .seq ([] : List Value).toArray }
  have nLD : env.locals ≠ H1'.objs.size := Nat.ne_of_lt F₁.ns.lt
  have offD : ∀ p ∈ rest, p.1 ≠ H1'.objs.size := fun p hp => Nat.ne_of_lt (Heap.lt_size (N₁ p hp).1)
  have hID : I ≠ H1'.objs.size := Nat.ne_of_lt hIsz
  have ltD : ∀ p ∈ rest, @LT.lt Nat _ p.1 H1'.objs.size := fun p hp => Heap.lt_size (N₁ p hp).1
  have eD : (H1'.push { cls := .type "list", dict := none, data := .seq ([] : List Value).toArray }).objs.size = H1'.objs.size + 1 := Heap.size_push ..
  have hit₂ : (H1'.push { cls := .type "list", dict := none, data := .seq ([] : List Value).toArray }).IsListIter I ax 0 := by
    obtain ⟨oi, e, r⟩ := hitI
    exact ⟨oi, Heap.get?_push_of_some _ e, r⟩
  have hDlt : H1'.objs.size < (H1'.push { cls := .type "list", dict := none, data := .seq ([] : List Value).toArray }).objs.size := by rw [eD]; exact Nat.lt_succ_self _
  generalize hH2 : H1'.push { cls := .type "list", dict := none, data := .seq ([] : List Value).toArray } = H2' at *
  generalize H1'.objs.size = D at *
  have hC₀ : h₀.get? H2'.objs.size = none := next_is_new F₂
  have nLC : env.locals ≠ H2'.objs.size := Nat.ne_of_lt F₂.ns.lt
  have offC : ∀ p ∈ rest, p.1 ≠ H2'.objs.size := fun p hp => Nat.ne_of_lt (Heap.lt_size (N₂ p (.tail _ hp)).1)
  have hIC : I ≠ H2'.objs.size := by
    obtain ⟨oi, e, _⟩ := hit₂
    exact Nat.ne_of_lt (Heap.lt_size e)
  have hDC : D ≠ H2'.objs.size := Nat.ne_of_lt hDlt
  have hit₃ : h₁.IsListIter I ax 0 := by
    obtain ⟨oi, e, r⟩ := hit₂
    exact ⟨oi, hsb₁.extBut _ _ hIC (Heap.get?_push_of_some _ e), r⟩
  have F₃ : Fr h₀ env.locals h₁ m := (F₂.push _).change hsb₁ (Ne.symm nLC) hC₀
  have N₃ : News h₀ env.locals h₁ ((D, lst []) :: rest) := fun p hp => by
    have z := N₂ p hp
    refine ⟨hsb₁.extBut _ _ ?_ (Heap.get?_push_of_some _ z.1), z.2⟩
    rcases List.mem_cons.mp hp with rfl | hp
    · exact hDC
    · exact offC p hp
  have loop := outer_block (prog := prog) (w := w) (A := A) (elt := elt) (i0 := i0) (px := px) (pz := pz) (pos := pos) (s₂ := s₁) (tk := s₁.toks + ([] : List (Str × Value)).length)
    hh H1 H2 ho3 hsz hxz hkind hx hz hset hit₃ (offI _ hits) F₃ hI₀ hC₀ hD₀ hns₁ N₃ ⟨Ne.symm nLI, Ne.symm nLC, Ne.symm nLD⟩ ⟨hIC, hID, Ne.symm hDC⟩ (Off3.of fun p hp => ⟨offI p hp, offC p hp, offD p hp⟩) hits hk hO
    (R := compPost (model prog w) A E (some (assign (.Name y py) env)) (fun _ s' => Q .next s') (.ref D) H2'.objs.size) ?_
  · refine codeAny_compStart_list loop (wpAny_pyIter_listiter hit₃ loop)
  · intro h' tk' m' ys' new' hlow F' hn' N' off' hO'
    show wpAny _ A (assign (.Name y py) env (.ref D)) _ _ _
    refine wpAny_assign_Name (wpAny_storeName_local hy F'.ns (fun h₂ hn₂ hs₂ => ?_) hp)
    have hL₀ : h₀.get? env.locals = none := Heap.get?_none_of_le F'.above
    have F₂ : Fr h₀ env.locals h₂ (fun z => if z = y then some (.ref D) else m z) := ⟨hn₂, fun b o e => hs₂.extBut b o (fun q => by rw [q, hL₀] at e; cases e) (F'.keep b o e), F'.above⟩
    refine ⟨m', hn'.sameBut hs₂ (Ne.symm nLC), fun h'' hs'' => h D h'' _ ys' new' hlow ltD (F₂.change hs'' (Ne.symm nLC) hC₀) (fun p hp => ?_) hO'⟩
    have z : h₂.get? p.1 = some p.2 := hs₂.extBut _ _ (N' p hp).2.1 (N' p hp).1
    refine ⟨hs''.extBut _ _ ?_ z, (N' p hp).2⟩
    rcases List.mem_cons.mp hp with rfl | hp
    · exact hDC
    · exact (off' p hp).1
end
end Mine
end
section
open PySem PySem.W PyProof.Rows PySem.Calls PyProof.Rows.LCg
open Sem (wp)
namespace Mine
def ordsOf : Nat → List (List Int)
  | 0 => [[]]
  | k + 1 => (ordsOf k).flatMap (insAll (k : Int))
section
variable {prog : Program} {w : World} {A : Around} {E : Value → Shared → Prop} {s : Shared} {h₀ : Heap} {L : Addr} {m : Str → Option Value} {env : Env}

theorem for_cell {x : Str} {px : Pos} {body : List Stmt} {I c : Addr} {n : Nat} {R : Result → Shared → Prop} {v₀ : Option Value} (hh : A.handled = none) (hk : env.scope.kind = .function) (hx : env.kindOf x = some .cell) (hc : env.cells.lookup x = some c) (hIc : I ≠ c)
    (J : Nat → Heap → Prop) (hJ : ∀ i h h', J i h → (∀ b o, b ≠ I → b ≠ c → h.get? b = some o → h'.get? b = some o) → J i h')
    (step : ∀ (i : Nat) h tk t (E' : Value → Shared → Prop), i < n → J i h → (∃ o, h.get? I = some o) → h.IsCell c (some (.int (i : Int) t)) →
      wpAny (model prog w) A (execs body env) (fun f s₃ => f = .next ∧ ∃ h' tk', s₃ = { s with heap := h', toks := tk' } ∧ J (i + 1) h' ∧ (∀ o, h.get? I = some o → h'.get? I = some o) ∧ ∃ v, h'.IsCell c v) E' { s with heap := h, toks := tk })
    (done : ∀ h tk, J n h → R (.ok .next) { s with heap := h, toks := tk })
    (h0 : J 0 s.heap) (hI : IsRangeIter s.heap I 0 (n : Int) 1) (hv : s.heap.IsCell c v₀) :
    codeAny (model prog w) A (.forLoop (.Name x px) (.ref I) body [] env) R s := by
  have W := range_walks (prog := prog) (w := w) (I := I) hh 0 n
  refine codeAny_forLoop (fun q s' => ∃ h' tk i, s' = { s with heap := h', toks := tk } ∧ i ≤ n ∧ q = n + 1 - i ∧ J i h' ∧ IsRangeIter h' I (0 + (i : Int) * 1) ((n : Int) - (i : Int)) 1 ∧ ∃ v, h'.IsCell c v) ?_ (n + 1)
    ⟨s.heap, s.toks, 0, rfl, Nat.zero_le _, rfl, h0, by simpa using hI, v₀, hv⟩
  rintro q s' ⟨h', tk, i, rfl, hi, rfl, hJ', hit', v, hv'⟩
  by_cases hlt : i < n
  · refine W.item i _ _ _ hlt hit' fun u h₂ tk₂ hP hst₂ hk₂ => ?_
    obtain ⟨t, rfl⟩ := hP
    have hk₂' : ∀ b o', b ≠ I → h'.get? b = some o' → h₂.get? b = some o' := fun b o' hb e => hk₂ b o' (by simpa using hb) e
    have hv₂ : h₂.IsCell c v := by obtain ⟨o, e, r⟩ := hv'; exact ⟨o, hk₂' _ _ (Ne.symm hIc) e, r⟩
    refine wpAny_assign_Name (wpAny_storeName_cell hk hx hc hv₂ fun h₃ hv₃ hs₃ => ?_)
    have hit₃ : IsRangeIter h₃ I (0 + ((i + 1 : Nat) : Int) * 1) ((n : Int) - ((i + 1 : Nat) : Int)) 1 := hs₃.extBut _ _ hIc hst₂
    refine wpAny_mono (step i h₃ tk₂ t _ hlt (hJ _ _ _ hJ' fun b o h1 h2 e => hs₃.extBut b o h2 (hk₂' b o h1 e)) ⟨_, hit₃⟩ (by simpa using hv₃)) (fun f s₃ hf => ?_) fun _ _ e => e
    obtain ⟨rfl, h₄, tk₄, rfl, hJ₄, hI₄, v₄, hv₄⟩ := hf
    exact ⟨n + 1 - (i + 1), by omega, h₄, tk₄, i + 1, rfl, hlt, rfl, hJ₄, hI₄ _ hit₃, v₄, hv₄⟩
  · obtain rfl : i = n := by omega
    refine W.done _ _ _ hit' fun h₂ tk₂ hk₂ => wpAny_execs_nil ?_
    exact done h₂ tk₂ (hJ _ _ _ hJ' fun b o h1 _ e => hk₂ b o (by simpa using h1) e)

def OrdSt (h₀ : Heap) (L : Addr) (y : Str) (I c : Addr) (os : List (List Int)) (h : Heap) : Prop :=
  ∃ m D ys new n, Fr h₀ L h m ∧ m y = some (.ref D) ∧ News h₀ L h ((D, listOf (List.toArray ys) n) :: new) ∧ (∀ p ∈ (D, listOf (List.toArray ys) n) :: new, p.1 ≠ I ∧ p.1 ≠ c) ∧ Ords new ys os

theorem orders_loop {elt i1 : Expr} {x y z kx : Str} {px py py' pz pk : Pos} {scope : Scope} {cl : List (Str × Addr)} {pos spos : Pos} {I c : Addr} {n : Nat} {R : Result → Shared → Prop} {v₀ : Option Value} (hLe : env.locals = L)
    (hh : A.handled = none) (hn4 : n ≤ 4) (hkf : env.scope.kind = .function) (hxk : env.kindOf kx = some .cell) (hc : env.cells.lookup kx = some c) (hIc : I ≠ c)
    (H1 : ∀ m, RangeFor prog w A h₀ L m env i1 x scope cl) (H2 : ∀ m (k : Int) t oK, oK.data = .cell (some (.int k t)) → EltFor prog w A h₀ L m env elt x z scope cl c oK k)
    (hI : IsRangeIter s.heap I 0 (n : Int) 1) (hv : s.heap.IsCell c v₀) (hI₀ : h₀.get? I = none) (hc₀ : h₀.get? c = none) (hIL : I ≠ L) (hcL : c ≠ L)
    (h0 : OrdSt h₀ L y I c (ordsOf 0) s.heap)
    (done : ∀ h tk, OrdSt h₀ L y I c (ordsOf n) h → R (.ok .next) { s with heap := h, toks := tk })
    (hsw : swapsWith (.ListComp elt [⟨.Name x px, .Name y py', [], 0⟩, ⟨.Name z pz, i1, [], 0⟩] scope pos) (some (.Name y py)) spos.line env = pure true)
    (hclos : closureFor scope env = pure cl) (hcell : ∀ z ∈ scope.names, z.2 ≠ .cell) (hkind : scope.kind = .function)
    (hnames : ∀ z ∈ scope.names, z.2 = .local → scope.names.lookup z.1 = some .local) (hx : scope.names.lookup x = some .local) (hz : scope.names.lookup z = some .local) (hxz : x ≠ z)
    (hy : env.kindOf y = some .local) (hp : (env.scope.kind == .class || (env.scope.kind == .module && env.locals != env.globals)) = false) (hyd : (y == ("__debug__" : Str)) = false)
    (hset : ∀ x env, foldedSetIterable i1 env x = pure x) :
    codeAny (model prog w) A (.forLoop (.Name kx pk) (.ref I) [.Assign [.Name y py] (.ListComp elt [⟨.Name x px, .Name y py', [], 0⟩, ⟨.Name z pz, i1, [], 0⟩] scope pos) spos] [] env) R s := by
  refine for_cell hh hkf hxk hc hIc (fun i h => OrdSt h₀ L y I c (ordsOf i) h) ?_ ?_ done h0 hI hv
  · rintro i h h' ⟨m, D, ys, new, n, F, hm, N, off, hO⟩ hk
    refine ⟨m, D, ys, new, n, ⟨F.ns.at' fun o e => hk L o (Ne.symm hIL) (Ne.symm hcL) e, fun b o e => hk b o (fun q => by rw [q, hI₀] at e; cases e) (fun q => by rw [q, hc₀] at e; cases e) (F.keep b o e), F.above⟩, hm, fun p hp => ?_, off, hO⟩
    exact ⟨hk _ _ (off p hp).1 (off p hp).2 (N p hp).1, (N p hp).2⟩
  · rintro i h tk t E' hi ⟨m, D, ys, new, nD, F, hm, N, off, hO⟩ ⟨oI, eI⟩ ⟨oc, ec, hdc⟩
    have hfacts : (∀ o ∈ ordsOf i, o.length ≤ 3) ∧ (∀ j ≤ (ordsOf i).length, (((ordsOf i).take j).flatMap (insAll (i : Int))).length ≤ 100) := by
      have : i < 4 := Nat.lt_of_lt_of_le hi hn4
      match i, this with
      | 0, _ => exact ⟨by decide, by decide⟩
      | 1, _ => exact ⟨by decide, by decide⟩
      | 2, _ => exact ⟨by decide, by decide⟩
      | 3, _ => exact ⟨by decide, by decide⟩
    have N' : News h₀ L h ((I, oI) :: (c, oc) :: (D, listOf ys.toArray nD) :: new) := fun p hp => by
      rcases List.mem_cons.mp hp with rfl | hp
      · exact ⟨eI, hIL, hI₀⟩
      rcases List.mem_cons.mp hp with rfl | hp
      · exact ⟨ec, hcL, hc₀⟩
      · exact N p hp
    refine wpAny_execs_cons (two_assign (s := { s with heap := h, toks := tk }) (m := m) (kc := c) (ax := D) (oK := oc) (k := (i : Int)) hLe hh F N' (.tail _ (.tail _ (.head _))) (.tail _ (.head _)) (hO.mono (fun p hp => by simp [hp])) ?_ (H1 m) (H2 m _ _ _ hdc) hfacts.1 hfacts.2 ?_ hsw hclos hcell hkind hnames hx hz hxz hy hp hset (fun _ => rfl))
    · exact wpAny_Name (wpAny_loadName_local hkf hy (hLe ▸ F.ns) hm ⟨rfl, rfl⟩) hyd
    · intro D' h' tk' ys' new' hlow hD F₁ N₁ hO₁
      refine wpAny_execs_nil ⟨rfl, h', tk', rfl, ⟨_, D', ys', new', ys'.length, F₁, by simp, fun p hp => ?_, fun p hp => ?_, hO₁⟩, fun o e => ?_, _, oc, (N₁ (c, oc) (by simp)).1, hdc⟩
      · rcases List.mem_cons.mp hp with rfl | hp
        · exact N₁ _ (.head _)
        · exact N₁ _ (.tail _ (List.mem_append_left _ hp))
      · rcases List.mem_cons.mp hp with rfl | hp
        · exact ⟨Nat.ne_of_gt (hD (I, oI) (by simp)), Nat.ne_of_gt (hD (c, oc) (by simp))⟩
        · exact ⟨Nat.ne_of_gt (hlow p hp (I, oI) (by simp)), Nat.ne_of_gt (hlow p hp (c, oc) (by simp))⟩
      · rw [eI] at e; obtain rfl := Option.some.inj e
        exact (N₁ (I, oI) (by simp)).1
end
end Mine
end
section
open PySem PySem.W PyProof.Rows PySem.Calls PyProof.Rows.LCg
namespace Mine
variable {w : World} {A : Around} {s : Shared} {p : Program} {loose : List Str} {mean : ExcName → Option Value} {mg mb : Str → Option Value} {Q E : Value → Shared → Prop}
theorem enterC {name qual : Str} {params : Arguments} {body : List Stmt} {scope : Scope} {dV kV doc pm cdv ct oc : Value} {an od : Option Addr} {osl : Array (Option Value)} {f : Addr} {vs : List Value} {binds : List (Str × Value)} {Q E : Value → Shared → Prop}
    (X : (hd.heap_39 w.params).In s.heap) (T : Top p loose mean mg mb s.heap)
    (ho : (hd.heap_39 w.params).lookup f = some ⟨oc, od, .func (fnOf name qual params body scope dV kV doc pm an cdv ct), osl⟩) (hcd : codeIn (hd.heap_39 w.params) cdv qual = true) (hroom : A.depth < recursionLimit)
    (hbind : BindsTo s (fnOf name qual params body scope dV kV doc pm an cdv ct) ⟨vs, []⟩ binds) (hkind : (binds.all fun y => scope.names.lookup y.1 == some .local || scope.names.lookup y.1 == some .cell) = true)
    (hnd : ((cellsFrom 0 scope.names []).map (·.1)).Nodup)
    (h : ∀ L h₁ tk cells, Fr s.heap L h₁ (bindL (envOfC qual scope L f cdv).kindOf binds fun _ => none) → News s.heap L h₁ cells →
      CellsAre (bindC (envOfC qual scope L f cdv).kindOf binds fun _ => none) (cellsFrom (L + 1) scope.names []) cells →
      wpAny (model Challenge.rw_zd0002_01.row.prog w) (A.deeper (envOfC qual scope L f cdv)) (execs body (envOfC qual scope L f cdv)) (fun fl s' => Q (match fl with | .ret v => v | _ => .none) s') (fun _ _ => False) { s with heap := h₁, toks := tk })
    (hco : scope.isCoroutine = false) (hgen : scope.isGenerator = false) (hk : scope.kind = .function) :
    wpAny (model Challenge.rw_zd0002_01.row.prog w) A (call (.ref f) vs) Q E s := by
  refine wpAny_call ?_
  refine codeAny_call_function hroom (X _ _ ho) rfl hco hgen rfl (codeRec_of X hcd) (hbind _ _ _ _ ?_)
  refine wpAny_newFunctionEnv_cells hk (kindsX hkind _) fun env' he s' x => ?_
  subst he
  refine ⟨T.nolimit.keeps x.toInCall.keep, codeAny_func ?_⟩
  obtain ⟨h₁, tk, rfl, _⟩ := x.done
  have hk₁ := x.toInCall.keep
  obtain ⟨cells, NC, Y⟩ := Cl.news (h₀ := s.heap) (Nat.le_refl _) fun n c hm => ⟨x.cell n c (lookup_of_mem_nodup (cellsFrom_names scope.names 0 (s.heap.objs.size + 1) [] [] rfl ▸ hnd) hm), x.above n c hm⟩
  exact wpAny_mono (h s.heap.objs.size h₁ tk cells ⟨x.toInCall.ns, hk₁, Nat.le_refl _⟩ NC Y) (fun _ _ x => x) fun _ _ x => x.elim
end Mine
end
section
open PySem PySem.W PyProof.Rows PySem.Calls PyProof.Rows.LCg
namespace Mine
variable {w : World} {A : Around} {s s' : Shared} {p : Program} {loose : List Str} {mean : ExcName → Option Value} {mg mb : Str → Option Value} {Q E : Value → Shared → Prop}
local macro_rules | `(tactic| walk_at "m_enter") => `(tactic| (
  (case k6 => k_dflt k_is); (case k7 => k_dflt k_is); (case k9 => k_dflt (exact BindsTo.of_eq rfl)); (case kB => exact rfl); (case kD => decide +kernel); (case c2 => rfl); (case c3 => rfl); (case c4 => rfl);
  intro L h₁ tk' cells' F N' Y'; k_cells Y'; (try simp only [List.cons_append, List.nil_append] at N'); (try dsimp only)))
local macro_rules | `(tactic| walk_at "execs cons") => `(tactic| ((try dsimp only); (with_reducible refine wpAny_execs_cons ?_); try dsimp only))
local macro_rules | `(tactic| walk_at "m_step") => `(tactic| first | (k_unfold; (try dsimp only)) | walk1 | (dsimp only; walk1))
theorem news_ne {h₀ h : Heap} {L : Addr} {news : List (Addr × Obj)} (N : News h₀ L h news) : ∀ q ∈ news, q.1 ≠ h.objs.size := fun q hq => Nat.ne_of_lt (Heap.lt_size (N q hq).1)
theorem ord_start {h₀ h : Heap} {L I c l1 l2 : Addr} {m : Str → Option Value} {y : Str} {oc : Obj} {n n' : Nat} (F : Fr h₀ L h m) (hm : m y = some (.ref l2)) (N : News h₀ L h [(l2, listOf #[.ref l1] n), (l1, listOf #[] n'), (c, oc)]) (hI : l2 ≠ I ∧ l1 ≠ I) (hc : l2 ≠ c ∧ l1 ≠ c) :
    OrdSt h₀ L y I c [[]] h := by
  refine ⟨m, l2, [.ref l1], [(l1, listOf #[] n')], n, F, hm, fun q hq => ?_, fun q hq => ?_, ⟨⟨l1, [], n', rfl, .head _, .nil⟩, trivial⟩⟩
  · rcases List.mem_cons.mp hq with rfl | hq
    · exact N _ (.head _)
    · rw [List.mem_singleton.mp hq]; exact N _ (.tail _ (.head _))
  · rcases List.mem_cons.mp hq with rfl | hq
    · exact ⟨hI.1, hc.1⟩
    · rw [List.mem_singleton.mp hq]; exact ⟨hI.2, hc.2⟩
theorem look_is {m : Str → Option Value} {x : Str} {v : Value} (h : m x = some v) : m = fun y => if y = x then some v else m y := funext fun y => by split <;> simp_all
theorem of_allLt {d : Nat} : ∀ {l : List (Addr × Obj)}, AllLt d l → ∀ p ∈ l, @LT.lt Nat _ p.1 d
  | [], _, _, h => nomatch h
  | q :: _, x, p, h => by
    rcases List.mem_cons.mp h with rfl | h
    · exact x.1
    · exact of_allLt x.2 p h
local macro_rules | `(tactic| walk_at "subscriptTail Name Slice ref ref") => `(tactic| ((with_reducible show wpAny _ _ (subscriptTail _ (PySem.Expr.Slice (some _) none none _) (Value.ref _) (Value.ref _)) _ _ _); k_dflt (refine' kmk_slice_ints ?F ?N ?l ?p ?q ?i ?m ?c ?_ ?s ?t ?z; (case F => k_asm); (case N => k_asm); (case l => kmk_list); (case p => kmk_part); (case q => kmk_part); (case i => (rename (List.length _ ≤ 3) => ho'); assumption); (case m => exact kmk_from (by assumption) (Int.natCast_nonneg _)); (case c => exact rfl); (case s => with_unfolding_all rfl); (case t => kmk_pure); (case z => (have hl' := IntsAre.length (by assumption); rw [List.size_toArray, hl', sizeLine_eq]; omega))); intro D' ws' h' F' N' l1 hI' hC' hL'; clear hC' hL'; (try k_lt l1); (try k_sweep)))
set_option maxHeartbeats 4000000 in
set_option maxRecDepth 100000 in
theorem orders_call {t : Tok} (hroom : A.depth + 1 < recursionLimit) (hhA : A.handled = none)
    (X : (hd.heap_39 w.params).In s.heap) (T : Top p loose mean mg mb s.heap)
    (hQ : ∀ D ys new n h' tk', Grows s.heap h' → s.heap.get? D = none → h'.get? D = some (listOf (List.toArray ys) n) → (∀ q ∈ new, h'.get? q.1 = some q.2 ∧ s.heap.get? q.1 = none) → Ords new ys (ordsOf 4) → Q (.ref D) { s with heap := h', toks := tk' }) : wpAny (model Challenge.rw_zd0002_01.row.prog w) A (call (.ref 91) [.int 4 t]) Q E s := by
  obtain ⟨hd0, dp, fr, gd, un⟩ := A
  obtain rfl : hd0 = none := hhA
  revert X; k_fill; intro X
  refine' enterC (binds := [(Str.ofString "count", .int 4 t)]) X T ?k6 ?k7 (by show dp < _; have : dp + 1 < recursionLimit := hroom; omega) ?k9 ?kB ?kD ?_ ?c2 ?c3 ?c4
  walk_at "m_enter"
  iterate 11 (walk_at "m_step")
  refine wpAny_For ?_
  iterate 7 (walk_at "m_step")
  (rename IsRange _ _ _ _ _ _ _ _ => R'); (rename Fr _ _ _ _ => F'); (rename News _ _ _ _ => N'); (rename _ = Data.cell _ => hd')
  refine wpAny_pyIter_range R' (by decide) ?_
  dsimp only
  rename Heap => h₂
  have up : ∀ b o, h₂.get? b = some o → (h₂.push { cls := .type "range_iterator", data := .fields #[rawInt 0, rawInt (Builtin.Range.rangeSize 0 4 1), rawInt 1] }).get? b = some o := fun b o e => Heap.get?_push_of_some _ e
  have F2 := F'.keeps up
  have N2 := N'.grown up
  have nI := news_ne N'
  have hc := N2.get (.tail _ (.tail _ (.head _)))
  refine orders_loop (n := 4) (h₀ := s.heap) rfl rfl (Nat.le_refl _) rfl rfl rfl (Ne.symm (nI _ (.tail _ (.tail _ (.head _))))) ?H1 ?H2 (Heap.get?_push_size _ rfl) ⟨_, hc, hd'⟩ (next_is_new F') (N2 _ (.tail _ (.tail _ (.head _)))).2.2 (Ne.symm (Nat.ne_of_lt F'.ns.lt)) (N2 _ (.tail _ (.tail _ (.head _)))).2.1 ?h0 ?done (by with_unfolding_all rfl) (by rfl) (by decide) (by rfl) (by decide) (by rfl) (by rfl) (by decide) (by rfl) (by rfl) (by rfl) (fun _ _ => rfl)
  case h0 =>
    exact ord_start F2 rfl N2 ⟨nI _ (.head _), nI _ (.tail _ (.head _))⟩ ⟨by k_ne, by k_ne⟩
  case done =>
    rintro h tk ⟨m, D, ys, new, n, F3, hm, N3, off, hO⟩
    rw [look_is hm] at F3
    dsimp only
    iterate 3 (walk_at "m_step")
    dsimp only
    rename Fr _ _ _ _ => F4
    exact hQ _ _ _ _ _ _ F4.keep (N3 _ (.head _)).2.2 (N3 _ (.head _)).1 (fun q hq => ⟨(N3 q (.tail _ hq)).1, (N3 q (.tail _ hq)).2.2⟩) hO
  case H1 =>
    clear hc nI N2 F2 up N' F' R' hQ
    intro m s' a vs n o rest I oI C oC D oD m₂ h tk E' ho hC hx hvs F' N'
    k_steps
    all_goals assumption
  case H2 =>
    clear hc nI N2 F2 up N' F' R' hQ
    intro m k t' oK hdK s' a vs n o i ti rest I oI J oJ C oC D oD m₂ h tk E' ho hi hC hx hz hvs F' N'
    iterate 23 (walk_at "m_step")
    refine' kmk_slice_ints ?uF ?uN ?ul ?up ?uq ?ui ?um ?uc ?_ ?us ?ut ?uz
    case uF => k_asm
    case uN => k_asm
    case ul => kmk_list
    case up => kmk_part
    case uq => kmk_part
    case ui => exact hvs
    case um => exact kmk_from hvs (Int.natCast_nonneg _)
    case uc => exact rfl
    case us => with_unfolding_all rfl
    case ut => kmk_pure
    case uz => 
      have hl' := hvs.length
      rw [List.size_toArray, hl', sizeLine_eq]; omega
    intro D' ws' h' F' N' l1 hI' hC' hL'
    k_lt l1
    (rename IntsAre _ (_ ++ _) => hZ)
    refine' kmk_add_ints ?uF ?uN ?ua ?ub hZ hI' ?_ ?uz
    case uF => k_asm
    case uN => k_asm
    case ua => kmk_list
    case ub => kmk_list
    case uz =>
      rw [sizeLine_eq, List.length_append, List.length_take, List.length_drop, List.length_singleton]; omega
    intro D2' ws2' h2' F2' N2' l2 hI2'
    refine ⟨D2', ws2', h2', _, rfl, rfl, F2', fun p hp => N2' p ?_, fun p hp => l2 p ?_, hI2'⟩
    · revert p; kcf_all
    · revert p; kcf_all
end Mine
end
section
open PySem PySem.W PyProof.Rows PySem.Calls PySem.Builtin PySem.Builtin.Str
namespace Mine
def Word (k : Nat) (x : Str) : Prop := NumText.AllDigits x.cps.toList ∧ 0 < val x ∧ x.length ≤ 7 ∧ x.length = max k (dlen (val x))
theorem digitsVal_zeros (z : Nat) (cs : List Nat) : NumText.digitsVal (List.replicate z 48 ++ cs) = NumText.digitsVal cs := by
  induction z with
  | zero => simp
  | succ z ih => rw [List.replicate_succ, List.cons_append, NumText.digitsVal_zero, ih]
theorem word_list (k c : Int) (n : Nat) (hk : 3 + k.fmod 2 = (n : Int)) : (wordS k c).cps.toList = List.replicate (n - (figS c).length) 48 ++ (figS c).cps.toList := by
  unfold wordS
  rw [app_list, hk]
  congr 1
  have e : (if (n : Int) - ((figS c).length : Int) > 0 then (n : Int) - ((figS c).length : Int) else 0) = ((n - (figS c).length : Nat) : Int) := by split <;> omega
  rw [e, mul_list]
  show (List.replicate _ [48]).flatten = _
  simp
theorem dlen_nat (n : Nat) : dlen (n : Int) = (Nat.toDigits 10 n).length := by
  unfold dlen
  rw [← len_list, KIN.signs_num, List.length_map]
theorem word_ok (k c : Int) (n : Nat) (hk : 3 + k.fmod 2 = (n : Int)) (hn : n = 3 ∨ n = 4) : Word n (wordS k c) := by
  obtain ⟨x, y, z, e, hx⟩ := fig_list c
  have hl := word_list k c n hk
  have hf := fig_len_le c
  have had : NumText.AllDigits (figS c).cps.toList := by
    intro d hd
    rw [e] at hd
    have := List.mem_of_mem_take hd
    simp at this
    omega
  have hv : val (wordS k c) = ((NumText.digitsVal (figS c).cps.toList : Nat) : Int) := by unfold val; rw [hl, digitsVal_zeros]
  have hsh : ∃ r, (figS c).cps.toList = x :: r := by rw [e]; exact ⟨_, by rw [Nat.add_comm, List.take_succ_cons]⟩
  obtain ⟨r, hr⟩ := hsh
  have hlen : (wordS k c).length = max n (figS c).length := by rw [← len_list, hl, List.length_append, List.length_replicate, len_list]; omega
  refine ⟨?_, ?_, ?_, ?_⟩
  · intro d hd
    rw [hl] at hd
    rcases List.mem_append.mp hd with h | h
    · obtain ⟨_, rfl⟩ := List.mem_replicate.mp h; omega
    · exact had d h
  · rw [hv, hr]
    have := NumText.digitsVal_pos (c := x) (cs := r) hx.1
    omega
  · rw [hlen]; omega
  · rw [hlen, hv, dlen_nat, NumText.toDigits_digitsVal ((figS c).length - 1) _ (by rw [len_list]; omega) had (.inr ⟨x, r, hr, hx.1⟩), List.length_map, len_list]
end Mine
end
section
open PySem PySem.W PyProof.Rows PySem.Calls
namespace Mine
variable {w : World} {A : Around} {s s' : Shared} {p : Program} {loose : List Str} {mean : ExcName → Option Value} {mg mb : Str → Option Value} {Q E : Value → Shared → Prop} {h₀ : Heap} {L : Addr} {m : Str → Option Value} {news : List (Addr × Obj)}
def AllNe (d : Nat) : List (Addr × Obj) → Prop
  | [] => True
  | p :: r => @Ne Nat p.1 d ∧ AllNe d r
theorem AllNe.of {d : Addr} : ∀ {l : List (Addr × Obj)}, (∀ p ∈ l, p.1 ≠ d) → AllNe d l
  | [], _ => trivial
  | p :: _, h => ⟨h p (.head _), AllNe.of fun q hq => h q (.tail _ hq)⟩
theorem AllNe.all {d : Nat} : ∀ {l : List (Addr × Obj)}, AllNe d l → ∀ p ∈ l, @Ne Nat p.1 d
  | [], _, _, h => nomatch h
  | q :: _, x, p, h => by
    rcases List.mem_cons.mp h with rfl | h
    · exact x.1
    · exact AllNe.all x.2 p h
theorem news_made {l : Addr} {o : Obj} {h' : Heap} (F : Fr h₀ L s.heap m) (N : News h₀ L s.heap news) (k : Grows s.heap h') (hl : s.heap.get? l = none) (ho : h'.get? l = some o) : News h₀ L h' ((l, o) :: news) ∧ AllNe l news := by
  refine ⟨fun q hq => ?_, AllNe.of fun q hq e => ?_⟩
  · rcases List.mem_cons.mp hq with rfl | hq
    · refine ⟨ho, fun e => ?_, ?_⟩
      · obtain ⟨_, _, _, e', _⟩ := F.ns
        rw [show l = L from e] at hl; rw [hl] at e'; cases e'
      · cases e : h₀.get? l with
        | none => rfl
        | some o' => have := F.keep _ _ e; rw [hl] at this; cases this
    · exact ⟨k _ _ (N q hq).1, (N q hq).2⟩
  · have := (N q hq).1; rw [e, hl] at this; cases this

theorem words_N {l : Addr} {vs : List Value} {ns : List Int} (F : Fr h₀ L s.heap m) (N : News h₀ L s.heap news) (X : (hd.heap_39 w.params).In h₀) (T : Top p loose mean mg mb h₀) (hroom : A.depth + 1 < recursionLimit) (hhA : A.handled = none)
    (hl : h₀.IsList l vs.toArray) (hi : IntsAre vs ns) (hlen : ns.length ≤ 63)
    (h : ∀ x0 x1 x2 x3 l' n t0 t1 t2 t3 h' tk', Word 3 x0 → Word 4 x1 → Word 3 x2 → Word 4 x3 → Fr h₀ L h' m → News h₀ L h' ((l', listOf #[.str x0 t0, .str x1 t1, .str x2 t2, .str x3 t3] n) :: news) → AllNe l' news → Q (.ref l') { s with heap := h', toks := tk' }) :
    wpAny (model Challenge.rw_zd0002_01.row.prog w) A (call (.ref 86) [.ref l]) Q E s := by
  refine words_call hroom hhA (hl.at fun o e => F.keep l o e) hi hlen (X.keeps F.keep) (T.keeps F.keep) fun c0 c1 c2 c3 l' n t0 t1 t2 t3 h' tk' k hn ho => ?_
  obtain ⟨N', hne⟩ := news_made F N k hn ho
  exact h _ _ _ _ l' n t0 t1 t2 t3 h' tk' (word_ok 0 c0 3 (by decide) (by decide)) (word_ok 1 c1 4 (by decide) (by decide)) (word_ok 2 c2 3 (by decide) (by decide)) (word_ok 3 c3 4 (by decide) (by decide)) (F.keeps k) N' hne

/-- a mark: one sign that is no closing bracket and no figure -/
def Mark (y : Str) : Prop := ∃ c, c ≠ 41 ∧ (c < 48 ∨ 57 < c) ∧ y = ⟨#[c]⟩
theorem mark_at {i : Int} (h0 : 0 ≤ i) (h1 : i < 4) : Mark (Txt.item (Str.ofString "|!~(") i) := by
  have : i = 0 ∨ i = 1 ∨ i = 2 ∨ i = 3 := by omega
  rcases this with rfl | rfl | rfl | rfl
  · exact ⟨124, by decide, by decide, by decide +kernel⟩
  · exact ⟨33, by decide, by decide, by decide +kernel⟩
  · exact ⟨126, by decide, by decide, by decide +kernel⟩
  · exact ⟨40, by decide, by decide, by decide +kernel⟩
def Figs (x : Str) : Prop := NumText.AllDigits x.cps.toList ∧ x.length ≠ 0 ∧ x.length ≤ 100
theorem Word.figs {k : Nat} {x : Str} (h : Word k x) : Figs x := ⟨h.1, fun e => by
  have h1 := h.2.1
  have : x.cps.toList = [] := List.eq_nil_of_length_eq_zero (by rw [len_list]; exact e)
  unfold val at h1
  rw [this] at h1
  exact absurd h1 (by decide), by have := h.2.2.1; omega⟩
theorem port_N {x y : Str} {t u : Tok} (F : Fr h₀ L s.heap m) (N : News h₀ L s.heap news) (X : (hd.heap_39 w.params).In h₀) (T : Top p loose mean mg mb h₀) (hroom : A.depth + 1 < recursionLimit) (hx : Figs x) (hy : Mark y)
    (h : ∀ t h' tk', Fr h₀ L h' m → News h₀ L h' news → Q (.int (val x) t) { s with heap := h', toks := tk' }) : wpAny (model Challenge.rw_zd0002_01.row.prog w) A (call (.ref 98) [.str x t, .str y u]) Q E s := by
  obtain ⟨c, hc, hcd, rfl⟩ := hy
  exact port_call hroom hc hcd hx.1 hx.2.1 hx.2.2 (X.keeps F.keep) (T.keeps F.keep) fun t h' tk' k => h t h' tk' (F.keeps k) (N.grown k)
theorem sign_N {a b : Int} {t u : Tok} (F : Fr h₀ L s.heap m) (N : News h₀ L s.heap news) (X : (hd.heap_39 w.params).In h₀) (T : Top p loose mean mg mb h₀) (hroom : A.depth < recursionLimit)
    (h : ∀ t h' tk', Fr h₀ L h' m → News h₀ L h' news → Q (.int (sgn a b) t) { s with heap := h', toks := tk' }) : wpAny (model Challenge.rw_zd0002_01.row.prog w) A (call (.ref 105) [.int a t, .int b u]) Q E s :=
  sign_call hroom (X.keeps F.keep) (T.keeps F.keep) fun t h' tk' k => h t h' tk' (F.keeps k) (N.grown k)
/-- what _strcoll tells of two texts -/
def coll (a b : Str) : Int := b2i (decide (b.cps.toList < a.cps.toList)) - b2i (decide (a.cps.toList < b.cps.toList))
theorem strcoll_N {a b : Str} {t u : Tok} (F : Fr h₀ L s.heap m) (N : News h₀ L s.heap news) (X : (hd.heap_39 w.params).In h₀) (T : Top p loose mean mg mb h₀) (hroom : A.depth < recursionLimit)
    (h : ∀ t h' tk', Fr h₀ L h' m → News h₀ L h' news → Q (.int (coll a b) t) { s with heap := h', toks := tk' }) : wpAny (model Challenge.rw_zd0002_01.row.prog w) A (call (.ref 72) [.str a t, .str b u]) Q E s :=
  strcoll_call hroom (X.keeps F.keep) (T.keeps F.keep) fun t h' tk' k => h t h' tk' (F.keeps k) (N.grown k)
theorem strxfrm_N {a : Str} {t : Tok} (F : Fr h₀ L s.heap m) (N : News h₀ L s.heap news) (X : (hd.heap_39 w.params).In h₀) (T : Top p loose mean mg mb h₀) (hroom : A.depth < recursionLimit)
    (h : ∀ h' tk', Fr h₀ L h' m → News h₀ L h' news → Q (.str a t) { s with heap := h', toks := tk' }) : wpAny (model Challenge.rw_zd0002_01.row.prog w) A (call (.ref 79) [.str a t]) Q E s :=
  strxfrm_call hroom (X.keeps F.keep) (T.keeps F.keep) fun h' tk' k => h h' tk' (F.keeps k) (N.grown k)
theorem width_N {d : Addr} {kvs : List (Int × Value)} {o : Obj} (F : Fr h₀ L s.heap m) (N : News h₀ L s.heap news) (X : (hd.heap_39 w.params).In h₀) (T : Top p loose mean mg mb h₀) (hroom : A.depth + 1 < recursionLimit) (hhA : A.handled = none) (hds : (d == sysModules) = false)
    (hm : s.heap.DictOf (intKind Challenge.rw_zd0002_01.row.prog w) d kvs) (hsm : ∀ p ∈ kvs, Fl.Small p.2) (hne : Fl.figs kvs ≠ []) (hpos : ∀ a ∈ Fl.figs kvs, 0 < a ∧ a < 10 ^ 40)
    (h : ∀ M t h' tk', M ∈ Fl.figs kvs → (∀ a ∈ Fl.figs kvs, a ≤ M) → Fr h₀ L h' m → News h₀ L h' news → Q (.int (widthOf M (kvs.any fun p => Fl.isNone p.2)) t) { s with heap := h', toks := tk' }) :
    wpAny (model Challenge.rw_zd0002_01.row.prog w) A (call (.ref 21) [.ref d]) Q E s :=
  width_call hroom hhA hds hm hsm hne hpos (X.keeps F.keep) (T.keeps F.keep) fun M t h' tk' h1 h2 k => h M t h' tk' h1 h2 (F.keeps k) (N.grown k)
end Mine
end
section
open PySem PySem.W PyProof.Rows PySem.Calls
namespace Mine
variable {w : World} {A : Around} {s s' : Shared} {p : Program} {loose : List Str} {mean : ExcName → Option Value} {mg mb : Str → Option Value} {Q E : Value → Shared → Prop} {h₀ : Heap} {L : Addr} {m : Str → Option Value} {news : List (Addr × Obj)}
theorem fold_lt : ∀ (cs : List Nat) (acc : Nat), NumText.AllDigits cs → cs.foldl (fun acc c => acc * 10 + (c - 48)) acc < (acc + 1) * 10 ^ cs.length
  | [], acc, _ => by simp
  | c :: cs, acc, h => by
    have h1 := fold_lt cs (acc * 10 + (c - 48)) h.tail
    have h2 := h.head
    rw [List.foldl_cons, List.length_cons, Nat.pow_succ]
    refine Nat.lt_of_lt_of_le h1 ?_
    have h3 : acc * 10 + (c - 48) + 1 ≤ (acc + 1) * 10 := by omega
    calc (acc * 10 + (c - 48) + 1) * 10 ^ cs.length ≤ ((acc + 1) * 10) * 10 ^ cs.length := Nat.mul_le_mul_right _ h3
      _ = (acc + 1) * (10 ^ cs.length * 10) := by rw [Nat.mul_assoc, Nat.mul_comm 10]
theorem digitsVal_lt {cs : List Nat} (h : NumText.AllDigits cs) : NumText.digitsVal cs < 10 ^ cs.length := by
  have := fold_lt cs 0 h
  simpa [NumText.digitsVal] using this
theorem val_lt {x : Str} {n : Nat} (h : NumText.AllDigits x.cps.toList) (hn : x.length ≤ n) : val x < 10 ^ n := by
  have h1 := digitsVal_lt h
  rw [len_list] at h1
  have h2 : 10 ^ x.length ≤ 10 ^ n := Nat.pow_le_pow_right (by decide) hn
  unfold val
  have h3 : NumText.digitsVal x.cps.toList < 10 ^ n := Nat.lt_of_lt_of_le h1 h2
  exact_mod_cast h3
theorem width_even {d : Addr} {o : Obj} {x : Str} {t : Tok} (F : Fr h₀ L s.heap m) (N : News h₀ L s.heap news) (X : (hd.heap_39 w.params).In h₀) (T : Top p loose mean mg mb h₀) (hroom : A.depth + 1 < recursionLimit) (hhA : A.handled = none) (hds : (d == sysModules) = false)
    (ho : (d, o) ∈ news) (hw : Word 3 x) (hd : o.IsDictOf (intKind Challenge.rw_zd0002_01.row.prog w) [(0, .int (val x) t)])
    (h : ∀ t h' tk', Fr h₀ L h' m → News h₀ L h' news → Q (.int x.length t) { s with heap := h', toks := tk' }) :
    wpAny (model Challenge.rw_zd0002_01.row.prog w) A (call (.ref 21) [.ref d]) Q E s := by
  have hp := hw.2.1
  have hv := val_lt hw.1 (n := 40) (by have := hw.2.2.1; omega)
  have hf : Fl.figs [((0 : Int), Value.int (val x) t)] = [val x] := by
    have : Fl.keepV (.int (val x) t) = true := by simp [Fl.keepV]; omega
    simp [Fl.figs, this, Fl.valI]
  refine width_N (o := o) F N X T hroom hhA hds (Heap.dictOf_iff.mpr ⟨o, (N _ ho).1, hd⟩) (fun q hq => ?_) (by rw [hf]; simp) (by rw [hf]; simp; omega) fun M t' h' tk' h1 _ F' N' => ?_
  · rw [List.mem_singleton.mp hq]; exact .inl ⟨_, _, rfl⟩
  · rw [hf] at h1
    obtain rfl := List.mem_singleton.mp h1
    have e : widthOf (val x) ([((0 : Int), Value.int (val x) t)].any fun p => Fl.isNone p.2) = (x.length : Int) := by
      have := hw.2.2.2
      simp only [List.any_cons, List.any_nil, Fl.isNone, Bool.or_false, Bool.false_eq_true, if_false]
      unfold widthOf
      simp only [Bool.false_eq_true, if_false]
      repeat' split
      all_goals omega
    rw [e]
    exact h _ _ _ F' N'
theorem width_odd {d : Addr} {o : Obj} {x : Str} {t : Tok} (F : Fr h₀ L s.heap m) (N : News h₀ L s.heap news) (X : (hd.heap_39 w.params).In h₀) (T : Top p loose mean mg mb h₀) (hroom : A.depth + 1 < recursionLimit) (hhA : A.handled = none) (hds : (d == sysModules) = false)
    (ho : (d, o) ∈ news) (hw : Word 4 x) (hd : o.IsDictOf (intKind Challenge.rw_zd0002_01.row.prog w) [(0, .int (val x) t), (1, .none)])
    (h : ∀ t h' tk', Fr h₀ L h' m → News h₀ L h' news → Q (.int x.length t) { s with heap := h', toks := tk' }) :
    wpAny (model Challenge.rw_zd0002_01.row.prog w) A (call (.ref 21) [.ref d]) Q E s := by
  have hp := hw.2.1
  have hv := val_lt hw.1 (n := 40) (by have := hw.2.2.1; omega)
  have hf : Fl.figs [((0 : Int), Value.int (val x) t), (1, .none)] = [val x] := by
    have h1 : Fl.keepV (.int (val x) t) = true := by simp [Fl.keepV]; omega
    have h2 : Fl.keepV .none = false := rfl
    simp [Fl.figs, h1, h2, Fl.valI]
  refine width_N (o := o) F N X T hroom hhA hds (Heap.dictOf_iff.mpr ⟨o, (N _ ho).1, hd⟩) (fun q hq => ?_) (by rw [hf]; simp) (by rw [hf]; simp; omega) fun M t' h' tk' h1 _ F' N' => ?_
  · rcases List.mem_cons.mp hq with rfl | hq
    · exact .inl ⟨_, _, rfl⟩
    · rw [List.mem_singleton.mp hq]; exact .inr rfl
  · rw [hf] at h1
    obtain rfl := List.mem_singleton.mp h1
    have e : widthOf (val x) ([((0 : Int), Value.int (val x) t), (1, .none)].any fun p => Fl.isNone p.2) = (x.length : Int) := by
      have := hw.2.2.2
      simp only [List.any_cons, List.any_nil, Fl.isNone, Bool.or_false, Bool.false_or, Bool.true_eq_false, if_true]
      unfold widthOf
      simp only [if_true]
      repeat' split
      all_goals omega
    rw [e]
    exact h _ _ _ F' N'
end Mine
end
section
open PySem PySem.W PyProof.Rows PySem.Calls
namespace Mine
theorem fold_add : ∀ (cs : List Nat) (acc : Nat), cs.foldl (fun acc c => acc * 10 + (c - 48)) acc = acc * 10 ^ cs.length + NumText.digitsVal cs
  | [], acc => by simp [NumText.digitsVal]
  | c :: cs, acc => by
    have h1 := fold_add cs (acc * 10 + (c - 48))
    have h2 := fold_add cs (0 * 10 + (c - 48))
    show cs.foldl _ (acc * 10 + (c - 48)) = _ + cs.foldl _ (0 * 10 + (c - 48))
    rw [h1, h2, List.length_cons, Nat.pow_succ]
    simp only [Nat.add_mul, Nat.zero_mul, Nat.zero_add]
    rw [Nat.mul_assoc, Nat.mul_comm 10, Nat.add_assoc]
theorem digitsVal_app (a b : List Nat) : NumText.digitsVal (a ++ b) = NumText.digitsVal a * 10 ^ b.length + NumText.digitsVal b := by
  show (a ++ b).foldl _ 0 = _
  rw [List.foldl_append, fold_add]
  rfl
theorem digitsVal_cons (c : Nat) (cs : List Nat) : NumText.digitsVal (c :: cs) = (c - 48) * 10 ^ cs.length + NumText.digitsVal cs := by
  have := digitsVal_app [c] cs
  rw [List.singleton_append] at this
  rw [this]
  simp [NumText.digitsVal]
theorem lex_lt : ∀ (a b : List Nat), a.length = b.length → NumText.AllDigits a → NumText.AllDigits b → (a < b ↔ NumText.digitsVal a < NumText.digitsVal b)
  | [], [], _, _, _ => by simp [NumText.digitsVal]
  | [], _ :: _, h, _, _ => by simp at h
  | _ :: _, [], h, _, _ => by simp at h
  | c :: cs, d :: ds, h, ha, hb => by
    have hl : cs.length = ds.length := by simpa using h
    have ih := lex_lt cs ds hl ha.tail hb.tail
    have h1 := digitsVal_lt ha.tail
    have h2 := digitsVal_lt hb.tail
    have hc := ha.head
    have hd := hb.head
    rw [List.cons_lt_cons_iff, ih, digitsVal_cons, digitsVal_cons, hl]
    rw [hl] at h1
    generalize 10 ^ ds.length = p at *
    rcases Nat.lt_trichotomy c d with hlt | rfl | hlt
    · obtain ⟨e, rfl⟩ : ∃ e, d = c + e + 1 := ⟨d - c - 1, by omega⟩
      have e1 : c + e + 1 - 48 = (c - 48) + e + 1 := by omega
      rw [e1, Nat.add_mul, Nat.add_mul, Nat.one_mul]
      constructor
      · intro _
        have := Nat.zero_le (e * p); omega
      · intro _; exact .inl hlt
    · constructor
      · rintro (h | ⟨_, h⟩)
        · omega
        · omega
      · intro h; exact .inr ⟨rfl, by omega⟩
    · obtain ⟨e, rfl⟩ : ∃ e, c = d + e + 1 := ⟨c - d - 1, by omega⟩
      have e1 : d + e + 1 - 48 = (d - 48) + e + 1 := by omega
      rw [e1, Nat.add_mul, Nat.add_mul, Nat.one_mul]
      constructor
      · rintro (h | ⟨h, _⟩)
        · omega
        · omega
      · intro h
        have := Nat.zero_le (e * p); omega
theorem digits_app {a b : List Nat} (ha : NumText.AllDigits a) (hb : NumText.AllDigits b) : NumText.AllDigits (a ++ b) := fun c hc => (List.mem_append.mp hc).elim (ha c) (hb c)
theorem val_app (x y : Str) : val (x ++ y) = val x * 10 ^ y.length + val y := by
  unfold val
  rw [app_list, digitsVal_app, len_list]
  push_cast
  rfl
theorem signs_law {j k : Nat} {x y : Str} (hx : Word j x) (hy : Word k y) : coll (x ++ y) (y ++ x) = sgn (val x * (10 ^ y.length - 1)) (val y * (10 ^ x.length - 1)) := by
  have hxy : ((y ++ x).cps.toList < (x ++ y).cps.toList) ↔ val (y ++ x) < val (x ++ y) := by
    rw [app_list, app_list, lex_lt _ _ (by simp only [List.length_append]; omega) (digits_app hy.1 hx.1) (digits_app hx.1 hy.1)]
    unfold val
    rw [app_list, app_list, Int.ofNat_lt]
  have hyx : ((x ++ y).cps.toList < (y ++ x).cps.toList) ↔ val (x ++ y) < val (y ++ x) := by
    rw [app_list, app_list, lex_lt _ _ (by simp only [List.length_append]; omega) (digits_app hx.1 hy.1) (digits_app hy.1 hx.1)]
    unfold val
    rw [app_list, app_list, Int.ofNat_lt]
  unfold coll sgn
  rw [val_app, val_app] at hxy hyx
  have e1 : val x * (10 ^ y.length - 1) = val x * 10 ^ y.length - val x := by rw [Int.mul_sub, Int.mul_one]
  have e2 : val y * (10 ^ x.length - 1) = val y * 10 ^ x.length - val y := by rw [Int.mul_sub, Int.mul_one]
  rw [e1, e2]
  simp only [hxy, hyx]
  generalize val x * 10 ^ y.length = p
  generalize val y * 10 ^ x.length = q
  rcases Int.lt_trichotomy (p - val x) (q - val y) with h | h | h
  · rw [decide_eq_false (by omega), decide_eq_true (by omega), if_neg (by omega), if_neg (by omega)]; rfl
  · rw [decide_eq_false (by omega), decide_eq_false (by omega), if_pos h]; rfl
  · rw [decide_eq_true (by omega), decide_eq_false (by omega), if_neg (by omega), if_pos (by omega)]; rfl
end Mine
end
section
open PySem PySem.W PyProof.Rows PySem.Calls
namespace Mine
section
variable {prog : Program} {w : World} {A : Around} {s : Shared} {Q E : Value → Shared → Prop} {x y : Str} {k j : Nat} {t u : Tok} {b : Int}
theorem pow_word (hx : Word k x) (h : Q (.int (10 ^ x.length) s.toks) { s with toks := s.toks + 1 }) : wpAny (model prog w) A (binaryOp .Pow (.int 10 t) (.int (x.length : Int) u)) Q E s :=
  pow_int_small (by omega) (by have := hx.2.2.1; omega) (by decide) (by rw [Int.toNat_natCast]; exact h)
theorem mul_val (hx : Word k x) (h : Q (.int (val x * b) s.toks) { s with toks := s.toks + 1 }) : wpAny (model prog w) A (binaryOp .Mult (.int (val x) t) (.int b u)) Q E s :=
  mul_int h (IntMulOk.of_left (intBits_le_64 (by have := hx.2.1; omega) (by have := val_lt hx.1 hx.2.2.1; omega)))
theorem add_word2 (hx : Word k x) (hy : Word j y) (h : ∀ t' tk, Q (.str (x ++ y) t') { s with toks := tk }) : wpAny (model prog w) A (binaryOp .Add (.str x t) (.str y u)) Q E s :=
  add_small h (by have := hx.2.2.1; omega) (by have := hy.2.2.1; omega)
theorem signs_ne (hx : Word j x) (hy : Word k y) : ¬ ((coll (x ++ y) (y ++ x) != sgn (val x * (10 ^ y.length - 1)) (val y * (10 ^ x.length - 1))) = true) := by
  rw [signs_law hx hy]; simp
def pick : List Value → Nat → Option Value
  | [], _ => none
  | x :: _, 0 => some x
  | _ :: r, n + 1 => pick r n
theorem pick_get {v : Value} : ∀ (l : List Value) (n : Nat), pick l n = some v → l[n]? = some v
  | _ :: _, 0, h => h
  | _ :: r, n + 1, h => pick_get r n h
theorem item_P {h₀ : Heap} {L l : Addr} {news : List (Addr × Obj)} {its : Array Value} {n : Nat} {i : Int} {v : Value} {value slice : Expr} (N : News h₀ L s.heap news) (hm : (l, listOf its n) ∈ news) (h0 : 0 ≤ i) (hhi : i < 2 ^ 63) (hx : pick its.toList i.toNat = some v) (h : Q v s)
    (hs : subscripted slice false (.ref l) (.int i u) = operate [.ref l, .int i u] (getItem (.ref l) (.int i u)) := by with_unfolding_all rfl) :
    wpAny (model prog w) A (subscriptTail value slice (.ref l) (.int i u)) Q E s :=
  item_N N hm h0 hhi (by have := pick_get _ _ hx; simpa using this) h hs
end
end Mine
end
section
namespace Mine
section
variable (p l : Int → Nat)
def lenL (r : List Int) : Nat := (r.map l).sum
def T : List Int → Nat
  | [] => 0
  | a :: r => p a * 10 ^ lenL l r + T r
/-- a's fraction is no less than b's -/
def R (a b : Int) : Prop := p b * (10 ^ l a - 1) ≤ p a * (10 ^ l b - 1)
variable {p l}
theorem lenL_app (u v : List Int) : lenL l (u ++ v) = lenL l u + lenL l v := by simp [lenL]
theorem lenL_cons (a : Int) (v : List Int) : lenL l (a :: v) = l a + lenL l v := by simp [lenL]
theorem lenL_perm {u v : List Int} (h : u.Perm v) : lenL l u = lenL l v := (h.map l).sum_nat
theorem pow_pos10 (n : Nat) : 1 ≤ 10 ^ n := Nat.pos_of_ne_zero (by simp)
theorem R_iff {a b : Int} : R p l a b ↔ p b * 10 ^ l a + p a ≤ p a * 10 ^ l b + p b := by
  unfold R
  have h1 := pow_pos10 (l a)
  have h2 := pow_pos10 (l b)
  rw [Nat.mul_sub, Nat.mul_sub, Nat.mul_one, Nat.mul_one]
  have h3 : p b ≤ p b * 10 ^ l a := Nat.le_mul_of_pos_right _ h1
  have h4 : p a ≤ p a * 10 ^ l b := Nat.le_mul_of_pos_right _ h2
  omega
theorem T_two (a b : Int) (r : List Int) : T p l (a :: b :: r) = (p a * 10 ^ l b + p b) * 10 ^ lenL l r + T p l r := by
  show p a * 10 ^ lenL l (b :: r) + (p b * 10 ^ lenL l r + T p l r) = _
  rw [lenL_cons, Nat.pow_add, Nat.add_mul, Nat.mul_assoc, Nat.add_assoc]
theorem swap_le {a b : Int} {r : List Int} (h : R p l a b) : T p l (b :: a :: r) ≤ T p l (a :: b :: r) := by
  rw [T_two, T_two]
  exact Nat.add_le_add_right (Nat.mul_le_mul_right _ (R_iff.mp h)) _
theorem swap_lt {a b : Int} {r : List Int} (h : ¬ R p l a b) : T p l (a :: b :: r) < T p l (b :: a :: r) := by
  rw [T_two, T_two]
  refine Nat.add_lt_add_right ?_ _
  exact Nat.mul_lt_mul_of_pos_right (Nat.lt_of_not_le fun x => h (R_iff.mpr x)) (pow_pos10 _)
theorem T_app (u : List Int) (v w : List Int) (hl : lenL l v = lenL l w) (h : T p l v ≤ T p l w) : T p l (u ++ v) ≤ T p l (u ++ w) := by
  induction u with
  | nil => exact h
  | cons x u ih =>
    show p x * 10 ^ lenL l (u ++ v) + T p l (u ++ v) ≤ p x * 10 ^ lenL l (u ++ w) + T p l (u ++ w)
    rw [lenL_app, lenL_app, hl]
    exact Nat.add_le_add_left ih _
theorem T_app_lt (u : List Int) (v w : List Int) (hl : lenL l v = lenL l w) (h : T p l v < T p l w) : T p l (u ++ v) < T p l (u ++ w) := by
  induction u with
  | nil => exact h
  | cons x u ih =>
    show p x * 10 ^ lenL l (u ++ v) + T p l (u ++ v) < p x * 10 ^ lenL l (u ++ w) + T p l (u ++ w)
    rw [lenL_app, lenL_app, hl]
    exact Nat.add_lt_add_left ih _
theorem front {a : Int} {v : List Int} : ∀ {u : List Int}, (∀ x ∈ u, R p l a x) → T p l (u ++ a :: v) ≤ T p l (a :: (u ++ v))
  | [], _ => Nat.le_refl _
  | x :: u, h => by
    have ih := front (v := v) (u := u) fun y hy => h y (List.mem_cons_of_mem _ hy)
    have h1 : T p l ([x] ++ (u ++ a :: v)) ≤ T p l ([x] ++ a :: (u ++ v)) := T_app [x] _ _ (by simp only [lenL_app, lenL_cons]; omega) ih
    exact Nat.le_trans h1 (swap_le (h x (List.mem_cons_self ..)))
theorem sorted_max : ∀ {o o' : List Int}, o.Perm o' → o.Pairwise (R p l) → T p l o' ≤ T p l o
  | [], o', h, _ => by rw [h.nil_eq]; exact Nat.le_refl _
  | a :: r, o', h, hs => by
    have hs' := List.pairwise_cons.mp hs
    obtain ⟨u, v, rfl⟩ := List.append_of_mem (h.subset (List.mem_cons_self ..))
    have hp : r.Perm (u ++ v) := (h.trans List.perm_middle).cons_inv
    refine Nat.le_trans (front fun x hx => hs'.1 x (hp.symm.subset (List.mem_append_left _ hx))) ?_
    have ih := sorted_max hp hs'.2
    exact T_app [a] (u ++ v) r (lenL_perm hp.symm) ih
theorem R_trans {a b c : Int} (hb : 1 ≤ l b) (h1 : R p l a b) (h2 : R p l b c) : R p l a c := by
  unfold R at *
  have hpos : 0 < 10 ^ l b - 1 := by
    have : 10 ^ 1 ≤ 10 ^ l b := Nat.pow_le_pow_right (by decide) hb
    omega
  refine Nat.le_of_mul_le_mul_right ?_ hpos
  generalize 10 ^ l a - 1 = A at *
  generalize 10 ^ l b - 1 = B at *
  generalize 10 ^ l c - 1 = C at *
  calc p c * A * B = p c * B * A := by rw [Nat.mul_right_comm]
    _ ≤ p b * C * A := Nat.mul_le_mul_right _ h2
    _ = p b * A * C := by rw [Nat.mul_right_comm]
    _ ≤ p a * B * C := Nat.mul_le_mul_right _ h1
    _ = p a * C * B := by rw [Nat.mul_right_comm]
theorem four_pairs {a b c d : Int} (hl : ∀ k, 1 ≤ l k) (h1 : R p l a b) (h2 : R p l b c) (h3 : R p l c d) : [a, b, c, d].Pairwise (R p l) := by
  have h13 := R_trans (hl b) h1 h2
  have h24 := R_trans (hl c) h2 h3
  have h14 := R_trans (hl c) h13 h3
  simp only [List.pairwise_cons, List.mem_cons, List.not_mem_nil, or_false, false_implies, implies_true, List.Pairwise.nil, and_true]
  refine ⟨?_, ?_, ?_⟩
  · rintro x (rfl | rfl | rfl) <;> assumption
  · rintro x (rfl | rfl) <;> assumption
  · rintro x rfl; assumption
end
theorem ords_perm : ∀ o ∈ ordsOf 4, o.Perm [0, 1, 2, 3] := by decide
def swaps (o : List Int) : List (List Int) := match o with
  | [a, b, c, d] => [[b, a, c, d], [a, c, b, d], [a, b, d, c]]
  | _ => []
theorem ords_swaps : ∀ o ∈ ordsOf 4, (swaps o).length = 3 ∧ ∀ q ∈ swaps o, q ∈ ordsOf 4 := by decide
theorem ords_len : (ordsOf 4).length = 24 := by decide
theorem ords_shape : ∀ o ∈ ordsOf 4, ∃ a b c d, o = [a, b, c, d] := by
  intro o ho
  have h := (ords_swaps o ho).1
  unfold swaps at h
  split at h
  · exact ⟨_, _, _, _, rfl⟩
  · cases h
/-- no rise in an order if and only if its number is the greatest -/
theorem order_law {p l : Int → Nat} (hl : ∀ k, 1 ≤ l k) {a b c d : Int} (ho : [a, b, c, d] ∈ ordsOf 4) :
    (R p l a b ∧ R p l b c ∧ R p l c d) ↔ ∀ o' ∈ ordsOf 4, T p l o' ≤ T p l [a, b, c, d] := by
  constructor
  · rintro ⟨h1, h2, h3⟩ o' ho'
    exact sorted_max ((ords_perm _ ho).trans (ords_perm _ ho').symm) (four_pairs hl h1 h2 h3)
  · intro h
    have hs := (ords_swaps _ ho).2
    refine ⟨?_, ?_, ?_⟩
    · refine Classical.byContradiction fun hr => ?_
      exact absurd (h _ (hs [b, a, c, d] (by simp [swaps]))) (Nat.not_le.mpr (swap_lt hr))
    · refine Classical.byContradiction fun hr => ?_
      exact absurd (h _ (hs [a, c, b, d] (by simp [swaps]))) (Nat.not_le.mpr (T_app_lt [a] [b, c, d] [c, b, d] (by simp only [lenL_cons]; omega) (swap_lt hr)))
    · refine Classical.byContradiction fun hr => ?_
      exact absurd (h _ (hs [a, b, d, c] (by simp [swaps]))) (Nat.not_le.mpr (T_app_lt [a, b] [c, d] [d, c] (by simp only [lenL_cons]; omega) (swap_lt hr)))
end Mine
end
section
open PySem PySem.W PyProof.Rows PySem.Calls
namespace Mine
/-- the four words by their number -/
def wd (x0 x1 x2 x3 : Str) (k : Int) : Str := if k = 0 then x0 else if k = 1 then x1 else if k = 2 then x2 else x3
section
variable (X : Int → Str)
def pN (k : Int) : Nat := NumText.digitsVal (X k).cps.toList
def lN (k : Int) : Nat := (X k).length
def catL (o : List Int) : List Nat := (o.map fun k => (X k).cps.toList).flatten
variable {X}
theorem val_pN (k : Int) : val (X k) = ((pN X k : Nat) : Int) := rfl
theorem catL_cons (a : Int) (r : List Int) : catL X (a :: r) = (X a).cps.toList ++ catL X r := rfl
theorem catL_len : ∀ o : List Int, (catL X o).length = lenL (lN X) o
  | [] => rfl
  | a :: r => by rw [catL_cons, List.length_append, catL_len r, lenL_cons, len_list]; rfl
theorem catL_val : ∀ o : List Int, NumText.digitsVal (catL X o) = T (pN X) (lN X) o
  | [] => rfl
  | a :: r => by
    rw [catL_cons, digitsVal_app, catL_val r, catL_len r]; rfl
theorem catL_digits (hX : ∀ k, ∃ j, Word j (X k)) : ∀ o : List Int, NumText.AllDigits (catL X o)
  | [] => fun _ h => nomatch h
  | a :: r => digits_app (hX a).choose_spec.1 (catL_digits hX r)
theorem lN_pos (hX : ∀ k, ∃ j, Word j (X k)) (k : Int) : 1 ≤ lN X k := by
  have := (hX k).choose_spec.figs.2.1
  unfold lN; omega
theorem lN_le (hX : ∀ k, ∃ j, Word j (X k)) (k : Int) : lN X k ≤ 7 := (hX k).choose_spec.2.2.1
theorem pN_pos (hX : ∀ k, ∃ j, Word j (X k)) (k : Int) : 0 < pN X k := by
  have := (hX k).choose_spec.2.1
  rw [val_pN] at this; omega
theorem pow_sub (n : Nat) : ((10 : Int) ^ n - 1) = ((10 ^ n - 1 : Nat) : Int) := by
  have := pow_pos10 n
  rw [Int.ofNat_sub this, Int.natCast_pow]; rfl
theorem sgn_neg {a b : Int} : sgn a b < 0 ↔ a < b := by
  unfold sgn
  split
  · omega
  · split <;> omega
theorem sign_lt (a b : Int) : sgn (val (X a) * (10 ^ (X b).length - 1)) (val (X b) * (10 ^ (X a).length - 1)) < 0 ↔ ¬ R (pN X) (lN X) a b := by
  rw [sgn_neg, val_pN, val_pN, pow_sub, pow_sub, ← Int.natCast_mul, ← Int.natCast_mul, Int.ofNat_lt]
  unfold R lN
  omega
theorem dlen_of {n k : Nat} (h1 : 10 ^ k ≤ n) (h2 : n < 10 ^ (k + 1)) : dlen (n : Int) = k + 1 := by
  rw [dlen_nat]
  have a := (Nat.length_toDigits_le_iff (b := 10) (n := n) (k := k + 1) (by decide) (Nat.succ_pos k)).mpr h2
  rcases Nat.eq_zero_or_pos k with rfl | hk
  · have : 0 < (Nat.toDigits 10 n).length := Nat.length_toDigits_pos
    omega
  · have b := mt (Nat.length_toDigits_le_iff (b := 10) (n := n) (k := k) (by decide) hk).mp (Nat.not_lt.mpr h1)
    omega
theorem dlen_spec {n : Nat} (h : 0 < n) : 1 ≤ dlen (n : Int) ∧ 10 ^ (dlen (n : Int) - 1) ≤ n ∧ n < 10 ^ dlen (n : Int) := by
  rw [dlen_nat]
  have hp : 0 < (Nat.toDigits 10 n).length := Nat.length_toDigits_pos
  refine ⟨hp, ?_, (Nat.length_toDigits_le_iff (by decide) hp).mp (Nat.le_refl _)⟩
  rcases Nat.eq_zero_or_pos ((Nat.toDigits 10 n).length - 1) with e | hk
  · rw [e]; exact h
  · refine Nat.not_lt.mp fun hlt => ?_
    have := (Nat.length_toDigits_le_iff (b := 10) (n := n) (k := (Nat.toDigits 10 n).length - 1) (by decide) hk).mpr hlt
    omega
theorem T_lt (hX : ∀ k, ∃ j, Word j (X k)) (o : List Int) : T (pN X) (lN X) o < 10 ^ lenL (lN X) o := by
  rw [← catL_val, ← catL_len]
  exact digitsVal_lt (catL_digits hX o)
theorem dlen_T (hX : ∀ k, ∃ j, Word j (X k)) (a : Int) (r : List Int) : dlen ((T (pN X) (lN X) (a :: r) : Nat) : Int) = dlen ((pN X a : Nat) : Int) + lenL (lN X) r := by
  obtain ⟨h0, h1, h2⟩ := dlen_spec (pN_pos hX a)
  have h3 := T_lt hX r
  generalize dlen ((pN X a : Nat) : Int) = d at *
  obtain ⟨e, rfl⟩ : ∃ e, d = e + 1 := ⟨d - 1, by omega⟩
  rw [Nat.add_sub_cancel] at h1
  have hT : T (pN X) (lN X) (a :: r) = pN X a * 10 ^ lenL (lN X) r + T (pN X) (lN X) r := rfl
  rw [show e + 1 + lenL (lN X) r = (e + lenL (lN X) r) + 1 by omega]
  refine dlen_of ?_ ?_
  · rw [hT, Nat.pow_add]
    exact Nat.le_trans (Nat.mul_le_mul_right _ h1) (Nat.le_add_right _ _)
  · rw [hT, show e + lenL (lN X) r + 1 = (e + 1) + lenL (lN X) r by omega, Nat.pow_add]
    have : (pN X a + 1) * 10 ^ lenL (lN X) r ≤ 10 ^ (e + 1) * 10 ^ lenL (lN X) r := Nat.mul_le_mul_right _ h2
    rw [Nat.add_mul, Nat.one_mul] at this
    omega
theorem dlen_mono {a b : Nat} (ha : 0 < a) (h : a ≤ b) : dlen (a : Int) ≤ dlen (b : Int) := by
  obtain ⟨h0, h1, h2⟩ := dlen_spec ha
  obtain ⟨g0, g1, g2⟩ := dlen_spec (Nat.lt_of_lt_of_le ha h)
  refine Nat.not_lt.mp fun hlt => ?_
  have : 10 ^ dlen (b : Int) ≤ 10 ^ (dlen (a : Int) - 1) := Nat.pow_le_pow_right (by decide) (by omega)
  omega
def firsts : List (List Int) := [[0, 1, 2, 3], [1, 0, 2, 3], [2, 0, 1, 3], [3, 0, 1, 2]]
theorem firsts_in : ∀ o ∈ firsts, o ∈ ordsOf 4 := by decide
theorem ords_sum (o : List Int) (ho : o ∈ ordsOf 4) : lenL (lN X) o = lN X 0 + lN X 1 + lN X 2 + lN X 3 := by
  rw [lenL_perm (ords_perm o ho)]
  simp only [lenL, List.map_cons, List.map_nil, List.sum_cons, List.sum_nil]; omega
theorem ords_elts : ∀ o ∈ ordsOf 4, ∀ k ∈ o, k = 0 ∨ k = 1 ∨ k = 2 ∨ k = 3 := by decide
/-- the table of all 24 ports is as wide as the words together, less the fewest noughts -/
theorem last_law (hX : ∀ k, ∃ j, Word j (X k)) {M : Nat} (hM : ∃ o ∈ ordsOf 4, M = T (pN X) (lN X) o) (hmax : ∀ o ∈ ordsOf 4, T (pN X) (lN X) o ≤ M) {z : Int}
    (hz : ∃ k, (k = 0 ∨ k = 1 ∨ k = 2 ∨ k = 3) ∧ z = (lN X k : Int) - (dlen ((pN X k : Nat) : Int) : Int)) (hmin : ∀ k : Int, (k = 0 ∨ k = 1 ∨ k = 2 ∨ k = 3) → z ≤ (lN X k : Int) - (dlen ((pN X k : Nat) : Int) : Int)) :
    widthOf (M : Int) false = (lN X 0 : Int) + lN X 1 + lN X 2 + lN X 3 - z := by
  obtain ⟨o, ho, rfl⟩ := hM
  obtain ⟨k, hk, rfl⟩ := hz
  obtain ⟨a, b, c, d, rfl⟩ := ords_shape o ho
  have ha := ords_elts _ ho a (List.mem_cons_self ..)
  have hsum := ords_sum (X := X) _ ho
  have hda := dlen_T hX a [b, c, d]
  have hl := lenL_cons (l := lN X) a [b, c, d]
  have hmin' := hmin a ha
  have hTpos : ∀ (x : Int) (r : List Int), 0 < T (pN X) (lN X) (x :: r) := fun x r => by
    have h1 := Nat.mul_pos (pN_pos hX x) (pow_pos10 (lenL (lN X) r))
    show 0 < pN X x * 10 ^ lenL (lN X) r + T (pN X) (lN X) r
    omega
  have hge : lN X 0 + lN X 1 + lN X 2 + lN X 3 ≤ dlen ((T (pN X) (lN X) [a, b, c, d] : Nat) : Int) + (lN X k - dlen ((pN X k : Nat) : Int)) := by
    obtain ⟨r, hr⟩ : ∃ r, k :: r ∈ ordsOf 4 := by
      rcases hk with rfl | rfl | rfl | rfl
      · exact ⟨_, firsts_in [0, 1, 2, 3] (by decide)⟩
      · exact ⟨_, firsts_in [1, 0, 2, 3] (by decide)⟩
      · exact ⟨_, firsts_in [2, 0, 1, 3] (by decide)⟩
      · exact ⟨_, firsts_in [3, 0, 1, 2] (by decide)⟩
    have h1 := dlen_mono (hTpos k r) (hmax _ hr)
    rw [dlen_T hX k r] at h1
    have h2 := ords_sum (X := X) _ hr
    rw [lenL_cons] at h2
    omega
  have hle : dlen ((pN X k : Nat) : Int) ≤ lN X k := by
    obtain ⟨j, hw⟩ := hX k
    have h4 := hw.2.2.2
    rw [val_pN] at h4
    unfold lN; omega
  have e0 := lN_pos hX 0
  have e1 := lN_pos hX 1
  have e2 := lN_pos hX 2
  have e3 := lN_pos hX 3
  have g := (dlen_spec (pN_pos hX k)).1
  have hlast : 3 ≤ dlen ((T (pN X) (lN X) [a, b, c, d] : Nat) : Int) := by
    rcases hk with rfl | rfl | rfl | rfl <;> omega
  unfold widthOf
  simp only [Bool.false_eq_true, if_false]
  repeat' split
  all_goals omega
end
end Mine
end
section
open PySem PySem.W PyProof.Rows PySem.Calls
namespace Mine
variable {w : World} {A : Around} {s s' : Shared} {p : Program} {loose : List Str} {mean : ExcName → Option Value} {mg mb : Str → Option Value} {Q E : Value → Shared → Prop} {h₀ : Heap} {L : Addr} {m : Str → Option Value} {news : List (Addr × Obj)}
/-- no address of new stands in the list -/
def NewOff (new : List (Addr × Obj)) : List (Addr × Obj) → Prop
  | [] => True
  | q :: r => (∀ p ∈ new, @Ne Nat p.1 q.1) ∧ NewOff new r
theorem NewOff.of {new : List (Addr × Obj)} : ∀ {l : List (Addr × Obj)}, (∀ q ∈ l, ∀ p ∈ new, p.1 ≠ q.1) → NewOff new l
  | [], _ => trivial
  | q :: _, h => ⟨h q (.head _), NewOff.of fun r hr => h r (.tail _ hr)⟩
theorem orders_N {t : Tok} (F : Fr h₀ L s.heap m) (N : News h₀ L s.heap news) (X : (hd.heap_39 w.params).In h₀) (T : Top p loose mean mg mb h₀) (hroom : A.depth + 1 < recursionLimit) (hhA : A.handled = none)
    (h : ∀ D ys new n h' tk', Fr h₀ L h' m → News h₀ L h' ((D, listOf (List.toArray ys) n) :: (news ++ new)) → AllNe D news → NewOff new news → Ords new ys (ordsOf 4) → Q (.ref D) { s with heap := h', toks := tk' }) :
    wpAny (model Challenge.rw_zd0002_01.row.prog w) A (call (.ref 91) [.int 4 t]) Q E s := by
  refine orders_call hroom hhA (X.keeps F.keep) (T.keeps F.keep) fun D ys new n h' tk' k hn ho hnew hO => ?_
  obtain ⟨N', hne⟩ := news_made F N k hn ho
  refine h D ys new n h' tk' (F.keeps k) (fun q hq => ?_) hne (NewOff.of fun q hq r hr e => ?_) hO
  · rcases List.mem_cons.mp hq with rfl | hq
    · exact N' _ (.head _)
    · rcases List.mem_append.mp hq with hq | hq
      · exact N' _ (.tail _ hq)
      · obtain ⟨h1, h2⟩ := hnew q hq
        refine ⟨h1, fun e => ?_, ?_⟩
        · obtain ⟨_, _, _, e', _⟩ := F.ns
          rw [e] at h2; rw [h2] at e'; cases e'
        · cases e : h₀.get? q.1 with
          | none => rfl
          | some o' => have := F.keep _ _ e; rw [h2] at this; cases this
  · have h2 := (hnew r hr).2
    rw [e, (N q hq).1] at h2; cases h2
end Mine
end
section
open PySem PySem.W PyProof.Rows PySem.Calls PyProof.Rows.LCg
namespace Mine
section
variable {prog : Program} {w : World} {A : Around} {s : Shared} {h₀ : Heap} {L : Addr} {m : Str → Option Value} {env : Env} {elt : Expr} {x : Str} {scope : Scope} {cl : List (Str × Addr)} {S : List (Addr × Obj) → Prop} {P : Nat → Value → Prop} {Fin : List Value → List (Addr × Obj) → Prop}
/-- a block of n turns by induction -/
theorem rest_ind (n : Nat) (Inv : Nat → List Value → List (Addr × Obj) → Prop)
    (step : ∀ i ys news, i < n → Inv i ys news → ∀ v I oI C oC D m₂ h tk (E' : Value → Shared → Prop), P i v → NsObj oC m₂ → m₂ x = some v → Fr h₀ L h m → News h₀ L h ((I, oI) :: (C, oC) :: (D, lst ys) :: news) → Off3 I C D news → ((@Ne Nat I C) ∧ (@Ne Nat I D) ∧ (@Ne Nat C D)) →
      wpAny (model prog w) A (eval elt (compEnvC scope cl C env)) (CompEnd h₀ L m { s with heap := h, toks := tk } I oI C oC D (lst ys) S (fun y news' => Inv (i + 1) (ys ++ [y]) news')) E' { s with heap := h, toks := tk })
    (fin : ∀ ys news, Inv n ys news → Fin ys news) : ∀ k i ys news, i + k = n → Inv i ys news → CompRest prog w A h₀ L m env elt x scope cl s S P Fin k i ys news
  | 0, i, ys, news, e, h => by
    obtain rfl : i = n := by omega
    exact fin ys news h
  | k + 1, i, ys, news, e, h => fun v I oI C oC D m₂ h' tk E' hP hC hx F N off ne =>
    wpAny_mono (step i ys news (by omega) h v I oI C oC D m₂ h' tk E' hP hC hx F N off ne)
      (fun y s₂ ⟨h'', tk', news', e', F', N', off', hS, hI⟩ => ⟨h'', tk', news', e', F', N', off', hS, rest_ind n Inv step fin k (i + 1) (ys ++ [y]) news' (by omega) hI⟩) fun _ _ e => e
/-- a block of n turns that leaves nothing behind but its items -/
theorem rest_fix (n : Nat) (base : List (Addr × Obj)) (J : Nat → List Value → Prop) (hS : S base) (h0 : J 0 [])
    (step : ∀ i ys, i < n → J i ys → ∀ v I oI C oC D m₂ h tk (E' : Value → Shared → Prop), P i v → NsObj oC m₂ → m₂ x = some v → Fr h₀ L h m → News h₀ L h ((I, oI) :: (C, oC) :: (D, lst ys) :: base) → Off3 I C D base → ((@Ne Nat I C) ∧ (@Ne Nat I D) ∧ (@Ne Nat C D)) →
      wpAny (model prog w) A (eval elt (compEnvC scope cl C env)) (fun y s₂ => (∃ h' tk', s₂ = { s with heap := h', toks := tk' } ∧ Fr h₀ L h' m ∧ News h₀ L h' ((I, oI) :: (C, oC) :: (D, lst ys) :: base)) ∧ J (i + 1) (ys ++ [y])) E' { s with heap := h, toks := tk })
    (fin : ∀ ys, J n ys → Fin ys base) : CompRest prog w A h₀ L m env elt x scope cl s S P Fin n 0 [] base :=
  rest_ind n (fun i ys news => news = base ∧ J i ys)
    (fun i ys news hi ⟨e, hJ⟩ v I oI C oC D m₂ h tk E' hP hC hx F N off ne => by
      subst e
      refine wpAny_mono (step i ys hi hJ v I oI C oC D m₂ h tk E' hP hC hx F N off ne) (fun y s₂ h₂ => ?_) fun _ _ e => e
      obtain ⟨⟨h', tk', rfl, F', N'⟩, hJ'⟩ := h₂
      exact ⟨h', tk', news, rfl, F', N', off, hS, rfl, hJ'⟩)
    (fun ys news ⟨e, hJ⟩ => e ▸ fin ys hJ) n 0 [] base (Nat.zero_add _) ⟨rfl, h0⟩
end
end Mine
end
section
open PySem PySem.W PyProof.Rows PySem.Calls PySem.Builtin.Str
namespace Mine
/-- an order's text -/
def catS (X : Int → Str) (o : List Int) : Str := ⟨(catL X o).toArray⟩
theorem glue_fold : ∀ (rest : List Str) (acc : Array Nat), (rest.foldl (fun acc p => acc ++ (Str.ofString "").cps ++ p.cps) acc).toList = acc.toList ++ (rest.map fun x => x.cps.toList).flatten
  | [], acc => by simp
  | x :: r, acc => by
    rw [List.foldl_cons, glue_fold r]
    have : (Str.ofString "").cps = #[] := by decide +kernel
    simp [this]
theorem join_cat (X : Int → Str) (o : List Int) : Txt.join (Str.ofString "") (o.map X) = catS X o := by
  refine str_ext ?_
  show (glued (Str.ofString "") (o.map X)).cps.toList = catL X o
  unfold catL
  cases o with
  | nil => rfl
  | cons a r =>
    show (List.foldl _ _ _ : Array Nat).toList = _
    rw [List.map_cons, glue_fold, List.map_cons, List.flatten_cons]
    show (X a).cps.toList ++ (List.map (fun x : Str => x.cps.toList) (r.map X)).flatten = _
    rw [List.map_map]
    rfl
theorem cat_val (X : Int → Str) (o : List Int) : val (catS X o) = ((T (pN X) (lN X) o : Nat) : Int) := by
  unfold val catS; rw [← catL_val]
theorem cat_len (X : Int → Str) (o : List Int) : (catS X o).length = lenL (lN X) o := by
  rw [← len_list, ← catL_len]; rfl
theorem cat_figs {X : Int → Str} (hX : ∀ k, ∃ j, Word j (X k)) {o : List Int} (ho : o ∈ ordsOf 4) : Figs (catS X o) := by
  have h0 := ords_sum (X := X) o ho
  have h1 := lN_pos hX 0
  have l0 := lN_le hX 0
  have l1 := lN_le hX 1
  have l2 := lN_le hX 2
  have l3 := lN_le hX 3
  refine ⟨fun c hc => catL_digits hX o c (by simpa [catS] using hc), ?_, ?_⟩
  · rw [cat_len]; omega
  · rw [cat_len]; omega
theorem wd_words {x0 x1 x2 x3 : Str} (h0 : Word 3 x0) (h1 : Word 4 x1) (h2 : Word 3 x2) (h3 : Word 4 x3) : ∀ k, ∃ j, Word j (wd x0 x1 x2 x3 k) := by
  intro k
  unfold wd
  split
  · exact ⟨_, h0⟩
  · split
    · exact ⟨_, h1⟩
    · split
      · exact ⟨_, h2⟩
      · exact ⟨_, h3⟩
end Mine
end
section
open PySem PySem.W PyProof.Rows PySem.Calls
namespace Mine
theorem sorted_eq : ∀ {x y : List Int}, x.Perm y → x.Pairwise (· ≤ ·) → y.Pairwise (· ≤ ·) → x = y
  | [], y, h, _, _ => h.nil_eq
  | a :: r, [], h, _, _ => absurd h.length_eq (by simp)
  | a :: r, b :: t, h, hx, hy => by
    have hx' := List.pairwise_cons.mp hx
    have hy' := List.pairwise_cons.mp hy
    have e : a = b := by
      have h1 : a ≤ b := by
        rcases List.mem_cons.mp (h.mem_iff.mpr (List.mem_cons_self (a := b) (l := t))) with e | e
        · omega
        · exact hx'.1 _ e
      have h2 : b ≤ a := by
        rcases List.mem_cons.mp (h.mem_iff.mp (List.mem_cons_self (a := a) (l := r))) with e | e
        · omega
        · exact hy'.1 _ e
      omega
    subst e
    rw [sorted_eq h.cons_inv hx'.2 hy'.2]
theorem map_getD_range (ks : List Int) : ((List.range ks.length).map fun (i : Nat) => (i : Int)).map (fun k => ks.getD k.toNat 0) = ks := by
  rw [List.map_map]
  refine List.ext_getElem (by simp) fun i h1 h2 => ?_
  simp [h2]
/-- what is in order as texts of one length is in order as numbers -/
theorem places_law {ks : List Str} {n : Nat} (hd : ∀ x ∈ ks, NumText.AllDigits x.cps.toList) (hl : ∀ x ∈ ks, x.length = n) {ps y : List Int} (hp : ps.Perm ((List.range ks.length).map fun (i : Nat) => (i : Int)))
    (hs : ps.Pairwise fun i j => ¬ ((ks.getD j.toNat ⟨#[]⟩).cps.toList < (ks.getD i.toNat ⟨#[]⟩).cps.toList)) (hy : y.Perm (ks.map val)) (hys : y.Pairwise (· ≤ ·)) :
    ps.map (fun k => (ks.map val).getD k.toNat 0) = y := by
  have hlen : (ks.map val).length = ks.length := List.length_map ..
  refine sorted_eq ?_ ?_ hys
  · have h1 := (hp.map (fun k : Int => (ks.map val).getD k.toNat 0))
    have h2 := map_getD_range (ks.map val)
    rw [hlen] at h2
    rw [h2] at h1
    exact h1.trans hy.symm
  · refine List.pairwise_map.mpr (hs.imp_of_mem fun {i j} hi hj hij => ?_)
    have hin : ∀ k ∈ ps, ∃ m : Nat, m < ks.length ∧ k = (m : Int) := fun k hk => by
      obtain ⟨m, hm, rfl⟩ := List.mem_map.mp (hp.mem_iff.mp hk)
      exact ⟨m, List.mem_range.mp hm, rfl⟩
    obtain ⟨i, hi2, rfl⟩ := hin i hi
    obtain ⟨j, hj2, rfl⟩ := hin j hj
    simp only [Int.toNat_natCast] at hij ⊢
    have ei : (ks.map val).getD i 0 = val ks[i] := by simp [hi2]
    have ej : (ks.map val).getD j 0 = val ks[j] := by simp [hj2]
    have gi : ks.getD i ⟨#[]⟩ = ks[i] := by simp [hi2]
    have gj : ks.getD j ⟨#[]⟩ = ks[j] := by simp [hj2]
    rw [gi, gj] at hij
    rw [ei, ej]
    have mi := List.getElem_mem hi2
    have mj := List.getElem_mem hj2
    have := mt (lex_lt _ _ (by rw [len_list, len_list, hl _ mi, hl _ mj]) (hd _ mj) (hd _ mi)).mpr hij
    unfold val
    omega
end Mine
end
section
open PySem PySem.W PyProof.Rows PySem.Calls
namespace Mine.Srt
def keyText : Value → Str
  | .str x _ => x
  | _ => ⟨#[]⟩
/-- the items in the order of their keys' texts -/
def Out (kz : List Str) (vs out : List Value) : Prop :=
  ∃ ps : List (Str × Value), ps.Perm (kz.zip vs) ∧ out = ps.map Prod.snd ∧ ps.Pairwise (fun p q => ¬ (q.1.cps.toList < p.1.cps.toList))
theorem texts : ∀ {vs : List Value} {xs : List Str}, StrsAre vs xs → vs.map keyText = xs
  | _, _, .nil => rfl
  | _, _, .cons x t h => by rw [List.map_cons, texts h]; rfl
theorem all_str {vs : List Value} {xs : List Str} (h : StrsAre vs xs) : ∀ v ∈ vs, ∃ x t, v = .str x t := by
  induction h with
  | nil => intro v hv; cases hv
  | cons x t h ih =>
    intro v hv
    rcases List.mem_cons.mp hv with rfl | hv
    · exact ⟨x, t, rfl⟩
    · exact ih v hv
theorem snoc {x : Str} {t : Tok} : ∀ {vs : List Value} {xs : List Str}, StrsAre vs xs → StrsAre (vs ++ [.str x t]) (xs ++ [x])
  | _, _, .nil => .cons x t .nil
  | _, _, .cons x' t' h => .cons x' t' (snoc h)
theorem keys_of {keys : Array Value} {vs : List Value} {kz : List Str} (hk : StrsAre keys.toList kz) : KeysOf PyProof.Rows.strKind (keys.zip vs.toArray) := by
  intro p hp
  rw [ksk_zip] at hp
  obtain ⟨x, t, e⟩ := all_str hk p.1 (List.of_mem_zip (a := p.1) (b := p.2) hp).1
  exact ⟨x.cps.toList, by rw [e]⟩
theorem out {keys : Array Value} {vs : List Value} {kz : List Str} (hk : StrsAre keys.toList kz) {xs : Array Keyed} (hp : xs.Perm (keys.zip vs.toArray)) (hs : SortedToK PyProof.Rows.strKind xs xs.size) : Out kz vs (xs.map (·.2)).toList := by
  have hl : xs.toList.Perm (keys.toList.zip vs) := by rw [← ksk_zip]; exact Array.perm_iff_toList_perm.mp hp
  refine ⟨xs.toList.map fun p : Keyed => (keyText p.1, p.2), ?_, ?_, ?_⟩
  · have e2 : (keys.toList.zip vs).map (fun p : Keyed => (keyText p.1, p.2)) = kz.zip vs := by
      rw [← texts hk, List.zip_map_left]
      exact List.map_congr_left fun ⟨x, y⟩ _ => rfl
    rw [← e2]
    exact hl.map _
  · rw [Array.toList_map, List.map_map]; rfl
  · rw [List.pairwise_iff_getElem]
    intro i j hi hj hij
    have hi' : i < xs.size := by simpa using hi
    have hj' : j < xs.size := by simpa using hj
    have q := hs i j (Nat.le_of_lt hij) hj'
    have str : ∀ k, (h : k < xs.size) → KK PyProof.Rows.strKind xs k = (keyText xs[k].1).cps.toList := fun k h => by
      have hm : xs[k] ∈ keys.toList.zip vs := hl.mem_iff.mp (by simp)
      obtain ⟨x, t, e⟩ := all_str hk xs[k].1 (List.of_mem_zip (a := xs[k].1) (b := xs[k].2) hm).1
      unfold KK
      rw [Array.getElem?_eq_getElem h]
      show (PyProof.Rows.strKind.keyOf xs[k].1).getD _ = _
      rw [e]; rfl
    rw [str i hi', str j hj'] at q
    have q' : decide ((keyText xs[j].1).cps.toList < (keyText xs[i].1).cps.toList) = false := q
    simpa using q'
end Mine.Srt
end
section
open PySem PySem.W PyProof.Rows PySem.Calls
set_option maxHeartbeats 4000000
set_option maxRecDepth 100000
namespace Mine.Srt
def End (h₀ : Heap) (L : Addr) (m : Str → Option Value) (need : List (Addr × Obj)) (k : Str) (s₁ : Shared) (v : Value) (s₂ : Shared) : Prop :=
  ∃ h' tk t', s₂ = { s₁ with heap := h', toks := tk } ∧ v = .str k t' ∧ Fr h₀ L h' m ∧ News h₀ L h' need
section
variable {prog : Program} {w : World} {A : Around} {E : Value → Shared → Prop} {s : Shared} {h₀ : Heap} {L : Addr} {m : Str → Option Value} {news : List (Addr × Obj)} {a kS : Addr} {vs : List Value} {kz : List Str} {keys : Array Value} {e e1 : Nat} {P : PySem.Fin → Shared → Prop}

theorem tail_ {st : SortSt} (F : Fr h₀ L s.heap m) (N : News h₀ L s.heap (news ++ [(kS, seqObj "list" keys e), (a, seqObj "list" #[] e1)])) (hka : kS ≠ a) (hnk : ∀ p ∈ news, p.1 ≠ kS) (hna : ∀ p ∈ news, p.1 ≠ a)
    (hk : StrsAre keys.toList kz) (hlen : kz.length = vs.length) (h64 : vs.length < 64) (hp : (arrOf st).Perm (keys.zip vs.toArray)) (hs : SortedToK PyProof.Rows.strKind (arrOf st) (arrOf st).size) (hfl : failedOf st = none)
    (h : ∀ h' tk out c, Fr h₀ L h' m → News h₀ L h' ((a, seqObj "list" out c) :: news) → Out kz vs out.toList → P (.done (.ret .none)) { s with heap := h', toks := tk }) :
    wpAny (model prog w) A (ksk_tail a false e1 (.ref kS) st) P E s := by
  have nk := N (kS, seqObj "list" keys e) (List.mem_append_right _ (.head _))
  have na := N (a, seqObj "list" #[] e1) (List.mem_append_right _ (.tail _ (.head _)))
  have Nn : News h₀ L s.heap news := fun p hp => N p (List.mem_append_left _ hp)
  have hsz : keys.size = vs.length := by
    have h1 := hk.length
    rw [Array.length_toList] at h1
    omega
  have hsz2 : ((arrOf st).map (·.2)).size = vs.length := by rw [Array.size_map, hp.size_eq, Array.size_zip, hsz, List.size_toArray, Nat.min_self]
  have s1 := Heap.SameBut.update s.heap kS (Obj.mapSeq fun _ => (#[] : Array Value))
  have na1 : (s.heap.update kS (Obj.mapSeq fun _ => (#[] : Array Value))).get? a = some (seqObj "list" #[] e1) := (s1.2 a hka.symm).trans na.1
  have s2 := Heap.SameBut.update (s.heap.update kS (Obj.mapSeq fun _ => (#[] : Array Value))) a (Obj.mapSeq fun _ => (arrOf st).map (·.2))
  obtain ⟨c2, hc2⟩ : ∃ c2, ((s.heap.update kS (Obj.mapSeq fun _ => (#[] : Array Value))).update a (Obj.mapSeq fun _ => (arrOf st).map (·.2))).get? a = some (seqObj "list" ((arrOf st).map (·.2)) c2) :=
    ⟨_, get?_update_seq na1 fun _ => (arrOf st).map (·.2)⟩
  have N2 := ksk_news (ksk_news Nn s1 hnk) s2 hna
  unfold ksk_tail
  try dsimp only
  refine wpAny_bind (listUpdate_at nk.1 rfl ?_ (by rw [hsz, sizeLine_eq]; omega) (Nat.zero_le _))
  refine wpAny_bind (wpAny_letGo ?_)
  refine wpAny_bind (seqEpoch_at na1 rfl ?_)
  simp only [Bool.false_eq_true, if_false]
  refine wpAny_bind (listUpdate_at na1 rfl ?_ (Nat.zero_le _) (Nat.le_trans (Nat.le_of_eq hsz2) (by rw [sizeLine_eq]; omega)))
  rw [hfl]
  simp only [bne_self_eq_false, Bool.false_eq_true, if_false]
  refine wpAny_pure (h _ _ _ c2 (ksk_fr (ksk_fr F s1 nk.2.1 nk.2.2) s2 na.2.1 na.2.2) (fun p hp => ?_) (out hk hp hs))
  rcases List.mem_cons.mp hp with rfl | hp
  · exact ⟨hc2, na.2⟩
  · exact N2 p hp

theorem end_ (F : Fr h₀ L s.heap m) (N : News h₀ L s.heap (news ++ [(kS, seqObj "list" keys e), (a, seqObj "list" #[] e1)])) (hka : kS ≠ a) (hnk : ∀ p ∈ news, p.1 ≠ kS) (hna : ∀ p ∈ news, p.1 ≠ a)
    (hk : StrsAre keys.toList kz) (hlen : kz.length = vs.length) (h2 : 2 ≤ vs.length) (h64 : vs.length < 64)
    (h : ∀ h' tk out c, Fr h₀ L h' m → News h₀ L h' ((a, seqObj "list" out c) :: news) → Out kz vs out.toList → P (.done (.ret .none)) { s with heap := h', toks := tk }) :
    wpAny (model prog w) A (ksk_end a false vs.toArray e1 (.ref kS) keys) P E s := by
  have hsz : keys.size = vs.length := by
    have h1 := hk.length
    rw [Array.length_toList] at h1
    omega
  have hzs : (keys.zip vs.toArray).size = vs.length := by rw [Array.size_zip, hsz, List.size_toArray, Nat.min_self]
  have hkind : keyKind' keys = pure oneType' := by
    obtain ⟨kl⟩ := keys
    match kl, hk, hsz with
    | [], _, hz => simp at hz; omega
    | [_], _, hz => simp at hz; omega
    | v₁ :: v₂ :: r, hk, _ => exact keyKind_strs hk
  unfold ksk_end
  try dsimp only
  simp only [Bool.false_eq_true, if_false]
  rw [if_neg (by rw [List.size_toArray]; omega), if_neg (by rw [List.size_toArray]; omega), hkind]
  refine wpAny_bind (wpAny_pure ?_)
  refine wpAny_bind (wpAny_mono (wpS_sortRunsK (κ := PyProof.Rows.strKind) (a₀ := keys.zip vs.toArray) (st := SortSt.mk' oneType' (keys.zip vs.toArray) #[] 7 none)
    (Q := fun _ st' => (arrOf st').Perm (keys.zip vs.toArray) ∧ failedOf st' = none ∧ SortedToK PyProof.Rows.strKind (arrOf st') (keys.zip vs.toArray).size)
    strKind_oneLt (keys_of hk) ⟨Array.Perm.refl _, rfl, rfl, rfl⟩ (by rw [hzs]; omega) (by rw [hzs]; exact h64) fun st' a1 a2 a3 => ⟨a1, a2, a3⟩) ?_ fun _ _ e => e)
  rintro ⟨⟨⟩, st'⟩ s' ⟨rfl, hp, hf, hs⟩
  try dsimp only
  exact tail_ F N hka hnk hna hk hlen h64 hp (by rw [hp.size_eq]; exact hs) hf h

theorem rest_ {f : Value} (F : Fr h₀ L s.heap m) (N : News h₀ L s.heap (news ++ [(kS, seqObj "list" #[] 0), (a, seqObj "list" #[] e1)])) (hka : kS ≠ a) (hnk : ∀ p ∈ news, p.1 ≠ kS) (hna : ∀ p ∈ news, p.1 ≠ a)
    (hlen : kz.length = vs.length) (h2 : 2 ≤ vs.length) (h64 : vs.length < 64)
    (turn : ∀ (i : Nat) (v : Value) (k : Str), vs[i]? = some v → kz[i]? = some k → ∀ (h : Heap) (tk : Nat) (own : List (Addr × Obj)), Fr h₀ L h m → News h₀ L h (news ++ own) →
      wpAny (model prog w) A (call f [v]) (End h₀ L m (news ++ own) k { s with heap := h, toks := tk }) (fun _ _ => False) { s with heap := h, toks := tk })
    (h : ∀ h' tk out c, Fr h₀ L h' m → News h₀ L h' ((a, seqObj "list" out c) :: news) → Out kz vs out.toList → P (.done (.ret .none)) { s with heap := h', toks := tk }) :
    wpAny (model prog w) A (ksk_rest a f false vs.toArray e1 (.ref kS)) P E s := by
  unfold ksk_rest
  refine wpAny_bind (wpAny_rule ?_)
  first
    | rw [List.forIn_toArray]
    | (rw [← Array.forIn_toList]; simp only [List.toList_toArray])
  refine wpAny_bind (ksk_fold (fun i s' => ∃ h' tk kA e, s' = { s with heap := h', toks := tk } ∧ Fr h₀ L h' m ∧ News h₀ L h' (news ++ [(kS, seqObj "list" kA e), (a, seqObj "list" #[] e1)]) ∧ StrsAre kA.toList (kz.take i)) vs 0 s
    ⟨s.heap, s.toks, #[], 0, rfl, F, N, by simpa using StrsAre.nil⟩ ?step ?done)
  case step =>
    rintro j x s' hx ⟨h', tk, kA, e, rfl, F', N', hk⟩
    simp only [Nat.zero_add] at hk ⊢
    have hj : j < vs.length := (List.getElem?_eq_some_iff.mp hx).1
    obtain ⟨k, hkj⟩ : ∃ k, kz[j]? = some k := ⟨_, List.getElem?_eq_getElem (by omega)⟩
    have hz : kA.size ≤ vs.length := by
      have h1 := hk.length
      rw [Array.length_toList, List.length_take] at h1
      omega
    refine wpAny_bind (wpAny_attempt (wpAny_mono (turn j x k hx hkj h' tk _ F' N') (fun v s'' he => ?_) fun _ _ hF => hF.elim))
    obtain ⟨g, tk2, t2, rfl, rfl, F2, N2⟩ := he
    try dsimp only
    have nk := N2 (kS, seqObj "list" kA e) (List.mem_append_right _ (.head _))
    have na := N2 (a, seqObj "list" #[] e1) (List.mem_append_right _ (.tail _ (.head _)))
    have s1 := Heap.SameBut.update g kS (Obj.mapSeq (·.push (.str k t2)))
    obtain ⟨c2, hc2⟩ : ∃ c2, (g.update kS (Obj.mapSeq (·.push (.str k t2)))).get? kS = some (seqObj "list" (kA.push (.str k t2)) c2) := ⟨_, get?_update_seq nk.1 (·.push (.str k t2))⟩
    have ek : kz.take (j + 1) = kz.take j ++ [k] := by rw [List.take_add_one, hkj]; simp
    have ea : (kA.push (Value.str k t2)).toList = kA.toList ++ [Value.str k t2] := by simp
    refine wpAny_bind (listUpdate_at nk.1 rfl ?_ (by rw [sizeLine_eq]; omega) (Nat.le_trans (Nat.le_of_eq (Array.size_push ..)) (by rw [sizeLine_eq]; omega)))
    refine wpAny_pure ⟨rfl, _, _, kA.push (.str k t2), c2, rfl, ksk_fr F2 s1 nk.2.1 nk.2.2, fun p hp => ?_, by rw [ea, ek]; exact snoc hk⟩
    rcases List.mem_append.mp hp with hp | hp
    · exact ksk_news (fun q hq => N2 q (List.mem_append_left _ hq)) s1 hnk p hp
    · rcases List.mem_cons.mp hp with rfl | hp
      · exact ⟨hc2, nk.2⟩
      · rw [List.mem_singleton.mp hp]
        exact ⟨(s1.2 a hka.symm).trans na.1, na.2⟩
  case done =>
    rintro s' ⟨h', tk, kA, e, rfl, F', N', hk⟩
    have hk' : StrsAre kA.toList kz := by
      have e3 : kz.take (0 + vs.length) = kz := List.take_of_length_le (by omega)
      rw [e3] at hk
      exact hk
    have nk := N' (kS, seqObj "list" kA e) (List.mem_append_right _ (.head _))
    try dsimp only
    refine wpAny_bind (listItems_at nk.1 rfl ?_)
    exact end_ F' N' hka hnk hna hk' hlen h2 h64 fun h3 tk3 out c F3 N3 k3 => h h3 tk3 out c F3 N3 k3

theorem sort_ {f : Value} {n : Nat} (F : Fr h₀ L s.heap m) (N : News h₀ L s.heap news) (ho : s.heap.get? a = some (seqObj "list" vs.toArray n)) (haL : a ≠ L) (ha0 : h₀.get? a = none) (hna : ∀ p ∈ news, p.1 ≠ a)
    (hlen : kz.length = vs.length) (h2 : 2 ≤ vs.length) (h64 : vs.length < 64)
    (turn : ∀ (i : Nat) (v : Value) (k : Str), vs[i]? = some v → kz[i]? = some k → ∀ (h : Heap) (tk : Nat) (own : List (Addr × Obj)), Fr h₀ L h m → News h₀ L h (news ++ own) →
      wpAny (model prog w) A (call f [v]) (End h₀ L m (news ++ own) k { s with heap := h, toks := tk }) (fun _ _ => False) { s with heap := h, toks := tk })
    (h : ∀ h' tk out c, Fr h₀ L h' m → News h₀ L h' ((a, seqObj "list" out c) :: news) → Out kz vs out.toList → P (.done (.ret .none)) { s with heap := h', toks := tk }) :
    wpAny (model prog w) A (ksk_tree a f false) P E s := by
  have ha : a < s.heap.objs.size := Heap.lt_size ho
  have s1 := Heap.SameBut.update s.heap a (Obj.mapSeq fun _ => (#[] : Array Value))
  obtain ⟨e1, ho1⟩ : ∃ e1, (s.heap.update a (Obj.mapSeq fun _ => (#[] : Array Value))).get? a = some (seqObj "list" #[] e1) := ⟨_, get?_update_seq ho fun _ => #[]⟩
  have F1 := ksk_fr F s1 haL ha0
  have N1 := ksk_news N s1 hna
  have hkS : ((s.heap.update a (Obj.mapSeq fun _ => (#[] : Array Value))).push (seqObj "tuple" vs.toArray 0)).objs.size = s.heap.objs.size + 1 := by rw [size_push', Heap.size_update]
  have hLk : L < ((s.heap.update a (Obj.mapSeq fun _ => (#[] : Array Value))).push (seqObj "tuple" vs.toArray 0)).objs.size := (F1.push _).ns.lt
  unfold ksk_tree
  refine wpAny_bind (listItems_at ho rfl ?_)
  refine wpAny_bind (listUpdate_at ho rfl ?_ (by rw [List.size_toArray, sizeLine_eq]; omega) (Nat.zero_le _))
  refine wpAny_bind (seqEpoch_at ho1 rfl ?_)
  refine wpAny_bind (wpAny_newTuple ?_ (by show vs.length ≤ _; rw [sizeLine_eq]; omega))
  refine wpAny_bind (wpAny_newList ?_ (Nat.zero_le _))
  refine wpAny_holding ?_
  refine rest_ (s := { s with heap := ((s.heap.update a (Obj.mapSeq fun _ => (#[] : Array Value))).push (seqObj "tuple" vs.toArray 0)).push (seqObj "list" #[] 0) }) (kS := ((s.heap.update a (Obj.mapSeq fun _ => (#[] : Array Value))).push (seqObj "tuple" vs.toArray 0)).objs.size)
    ((F1.push _).push _) (fun p hp => ?_) (by rw [hkS]; exact Nat.ne_of_gt (Nat.lt_succ_of_lt ha)) (fun p hp => by rw [hkS]; exact Nat.ne_of_lt (Nat.lt_succ_of_lt (Heap.lt_size (N p hp).1))) hna hlen h2 h64 turn h
  rcases List.mem_append.mp hp with hp | hp
  · exact ⟨Heap.get?_push_of_some _ (Heap.get?_push_of_some _ (N1 p hp).1), (N1 p hp).2⟩
  · rcases List.mem_cons.mp hp with rfl | hp
    · exact ⟨Heap.get?_push_size _ rfl, Nat.ne_of_gt hLk, Heap.get?_none_of_le (Nat.le_trans F.above (Nat.le_of_lt hLk))⟩
    · rw [List.mem_singleton.mp hp]
      exact ⟨Heap.get?_push_of_some _ (Heap.get?_push_of_some _ ho1), haL, ha0⟩
end
end Mine.Srt
end
section
open PySem PySem.W PyProof.Rows PySem.Calls
namespace Mine
section
variable {prog : Program} {w : World} {A : Around} {s : Shared} {Q E : Value → Shared → Prop} {u : Tok}
/-- one of the four words by a number from 0 to 3 -/
theorem item_words {h₀ : Heap} {L l : Addr} {news : List (Addr × Obj)} {n : Nat} {i : Int} {x0 x1 x2 x3 : Str} {t0 t1 t2 t3 : Tok} {value slice : Expr} (N : News h₀ L s.heap news) (hm : (l, listOf #[.str x0 t0, .str x1 t1, .str x2 t2, .str x3 t3] n) ∈ news) (hi : i = 0 ∨ i = 1 ∨ i = 2 ∨ i = 3)
    (h : ∀ t, Q (.str (wd x0 x1 x2 x3 i) t) s) (hs : subscripted slice false (.ref l) (.int i u) = operate [.ref l, .int i u] (getItem (.ref l) (.int i u)) := by with_unfolding_all rfl) :
    wpAny (model prog w) A (subscriptTail value slice (.ref l) (.int i u)) Q E s := by
  rcases hi with rfl | rfl | rfl | rfl
  · exact item_P N hm (by decide) (by decide) rfl (h t0) hs
  · exact item_P N hm (by decide) (by decide) rfl (h t1) hs
  · exact item_P N hm (by decide) (by decide) rfl (h t2) hs
  · exact item_P N hm (by decide) (by decide) rfl (h t3) hs
theorem join_words {D : Addr} {vs : List Value} {n : Nat} {X : Int → Str} {o : List Int} {t : Tok} (hX : ∀ k, ∃ j, Word j (X k)) (ho : o ∈ ordsOf 4) (hl : s.heap.get? D = some (listOf vs.toArray n)) (hi : StrsAre vs (o.map X))
    (h : ∀ t' k, Q (.str (catS X o) t') { s with toks := k }) : wpAny (model prog w) A (call (.builtin "str.join") [.str (Str.ofString "") t, .ref D]) Q E s := by
  refine join_list (items := vs.toArray) (ys := o.map X) ⟨_, hl, rfl, _, rfl⟩ (by simpa using hi) ?_ fun t' k => ?_
  · obtain ⟨a, b, c, d, rfl⟩ := ords_shape o ho
    have e : (Str.ofString "").length = 0 := by decide +kernel
    have la := lN_le hX a
    have lb := lN_le hX b
    have lc := lN_le hX c
    have ld := lN_le hX d
    unfold lN at la lb lc ld
    simp only [e, Nat.mul_zero, List.map_cons, List.map_nil, List.sum_cons, List.sum_nil]
    omega
  · rw [join_cat]; exact h t' k
end
end Mine
end
section
open PySem PySem.W PyProof.Rows PySem.Calls
set_option maxHeartbeats 4000000
set_option maxRecDepth 100000
namespace Mine
section
variable {prog : Program} {w : World} {A : Around} {E : Value → Shared → Prop} {s : Shared} {h₀ : Heap} {L r : Addr} {m : Str → Option Value} {news : List (Addr × Obj)} {a b : Int} {t u v : Tok} {n : Nat}
theorem collect_range {Q : List Value → Shared → Prop} (hh : A.handled = none) (hr : IsRange s.heap r a b 1 t u v) (hsmall : Builtin.Range.small a b 1 = true) (hn : Builtin.Range.rangeSize a b 1 = (n : Int)) (hlen : n ≤ 2 ^ 24)
    (h : ∀ h' tk vs, (∀ b o, s.heap.get? b = some o → h'.get? b = some o) → IntsAre vs (rangeKs a n) → Q vs { s with heap := h', toks := tk }) : wpAny (model prog w) A (collect (.ref r)) Q E s := by
  unfold collect
  refine wpAny_bind (wpAny_runValue (codeAny_builtin F.entry_proto_collect ?_))
  rw [Around.under_plainId F.plain_proto_collect _]
  show wpAny _ A.in1 (newList [] >>= fun l => again (.builtin "list.__iadd__" ⟨[l, .ref r], []⟩)) _ _ s
  refine wpAny_bind (wpAny_newObj_type ?_)
  have hS : (s.heap.push { cls := .type "list", data := .seq ([] : List Value).toArray }).get? s.heap.objs.size = some { cls := .type "list", data := .seq #[] 0 } := Heap.get?_push_size _ rfl
  have key : ∀ R : Result → Shared → Prop, (∀ h' tk acc' c', (∀ b o, b ≠ s.heap.objs.size → (s.heap.push { cls := .type "list", data := .seq ([] : List Value).toArray }).get? b = some o → h'.get? b = some o) → h'.get? s.heap.objs.size = some { cls := .type "list", dict := none, data := .seq acc' c', slots := #[] } →
      ItemsOf (fun i v => ∃ t, v = .int (a + i * 1) t) acc' n → R (.ok (.ret (.ref s.heap.objs.size))) { s with heap := h', toks := tk }) →
      codeAny (model prog w) A (.builtin "list.__iadd__" ⟨[.ref s.heap.objs.size, .ref r], []⟩) R { s with heap := s.heap.push { cls := .type "list", data := .seq ([] : List Value).toArray } } := fun R hR => by
    refine codeAny_builtin F.entry_list_iadd ?_
    rw [Around.under_plainId F.plain_list_iadd _]
    show wpAny _ A.in1 (Builtin.List.listExtendWith (.ref s.heap.objs.size) (.ref r) (.ref s.heap.objs.size)) _ _ _
    exact wpAny_extend_range (R := R) (s := { s with heap := s.heap.push { cls := .type "list", data := .seq ([] : List Value).toArray } }) hh (Heap.get?_push_of_some _ hr) hsmall hn hlen s.heap.objs.size _ 0 hS hR
  refine wpAny_pure ⟨plainId_quiet F.plain_list_iadd _, key _ fun h' tk acc c hk hS' hI => ?_⟩
  show wpAny _ A (load s.heap.objs.size >>= _) _ _ _
  refine wpAny_bind (wpAny_load hS' ?_)
  refine wpAny_pure (h h' tk acc.toList (fun b o e => hk b o (Nat.ne_of_lt (Heap.lt_size e)) (Heap.get?_push_of_some _ e)) ?_)
  exact kll_ints _ _ _ (by rw [Array.length_toList]; exact hI.1) fun j v hj => hI.2 j v (by rw [← hj, Array.getElem?_toList])
/-- sorted(range(a, b), key=f) where f tells texts -/
theorem sorted_range {kz : List Str} {q : Addr} {Q : Value → Shared → Prop} (hh : A.handled = none) (F : Fr h₀ L s.heap m) (N : News h₀ L s.heap news) (hr : IsRange s.heap r a b 1 t u v) (hsmall : Builtin.Range.small a b 1 = true) (hn : Builtin.Range.rangeSize a b 1 = (n : Int))
    (hlen : kz.length = n) (h2 : 2 ≤ n) (h64 : n < 64)
    (turn : ∀ (i : Nat) (t : Tok) (k : Str), kz[i]? = some k → ∀ (h : Heap) (tk : Nat) (own : List (Addr × Obj)), Fr h₀ L h m → News h₀ L h (news ++ own) →
      wpAny (model prog w) A.in1.in1 (call (.ref q) [.int (a + (i : Int)) t]) (Srt.End h₀ L m (news ++ own) k { s with heap := h, toks := tk }) (fun _ _ => False) { s with heap := h, toks := tk })
    (h : ∀ D h' tk vs out c, Fr h₀ L h' m → News h₀ L h' ((D, seqObj "list" out c) :: news) → AllNe D news → IntsAre vs (rangeKs a n) → Srt.Out kz vs out.toList → Q (.ref D) { s with heap := h', toks := tk }) :
    wpAny (model prog w) A (call (.builtin "sorted") [.ref r] [(Str.ofString "key", .ref q)]) Q E s := by
  refine call_function_entry_kw kind_sorted plain_sorted entry_sorted (ksk_s1 _ _) ?_
  unfold Builtin.«sorted»
  refine wpAny_bind (m := checkCount "sorted" 1 1 _) (wpAny_pure ?_)
  refine wpAny_bind (collect_range (A := A.in1) hh hr hsmall hn (by omega) fun h₁ tk₁ vs k₁ hI => ?_)
  have hvl : vs.length = n := by rw [hI.length, rangeKs_length]
  refine wpAny_bind (wpAny_newList ?_ (by rw [sizeLine_eq]; omega))
  have hoL : (h₁.push (seqObj "list" vs.toArray 0)).get? h₁.objs.size = some (seqObj "list" vs.toArray 0) := Heap.get?_push_size _ rfl
  have keep : ∀ b o, s.heap.get? b = some o → (h₁.push (seqObj "list" vs.toArray 0)).get? b = some o := fun b o e => Heap.get?_push_of_some _ (k₁ _ _ e)
  have old : ∀ b o, s.heap.get? b = some o → b < h₁.objs.size := fun b o e => Heap.lt_size (k₁ _ _ e)
  obtain ⟨oL, _, _, eL, _⟩ := F.ns
  have hLlt : L < h₁.objs.size := old _ _ eL
  refine wpAny_bind (wpAny_holding (wpAny_call_entry_kw slot_list_sort ⟨_, hoL, rfl⟩ entry_list_sort ?body (ksk_l1 _ _)))
  rw [ksk_t1]
  refine Srt.sort_ (s := { s with heap := h₁.push (seqObj "list" vs.toArray 0), toks := tk₁ }) (kz := kz) (news := news) (F.keeps keep) (N.grown keep) hoL (Nat.ne_of_gt hLlt) ?ha0 (fun p hp => Nat.ne_of_lt (old _ _ (N p hp).1)) (by omega) (by omega) (by omega) ?turn ?fin
  case ha0 =>
    cases e : h₀.get? h₁.objs.size with
    | none => rfl
    | some o' => exact absurd (old _ _ (F.keep _ _ e)) (Nat.lt_irrefl _)
  case turn =>
    intro i x k hx hk h tk own F' N'
    have hi : i < n := by have := (List.getElem?_eq_some_iff.mp hx).1; omega
    obtain ⟨t, rfl⟩ := hI.int_at i x hx
    rw [kll_at hi]
    exact turn i t k hk h tk own F' N'
  case fin =>
    intro h' tk out c F' N' O'
    refine ⟨_, rfl, ?_⟩
    exact wpAny_pure ⟨_, rfl, h _ _ _ vs out c F' N' (AllNe.of fun p hp => Nat.ne_of_lt (old _ _ (N p hp).1)) hI O'⟩
end
end Mine
end
section
open PySem PySem.W PyProof.Rows PySem.Calls PySem.Spec
set_option maxHeartbeats 4000000
set_option maxRecDepth 100000
namespace Mine
theorem allObj_imp : ∀ {ws : List (Addr × String)} {k k' : List (Addr × Obj) → Prop}, AllObj ws k → (∀ its, its.map (·.1) = ws.map (·.1) → k its → k' its) → AllObj ws k'
  | [], _, _, h, f => f [] rfl h
  | _ :: _, _, _, h, f => fun o ho => allObj_imp (h o ho) fun its e hk => f _ (by simp [e]) hk
theorem allObj_of : ∀ {ws : List (Addr × String)} {k : List (Addr × Obj) → Prop}, (∀ its, its.map (·.1) = ws.map (·.1) → k its) → AllObj ws k
  | [], _, f => f [] rfl
  | _ :: _, _, f => fun o _ => allObj_of fun its e => f _ (by simp [e])
section
variable {prog : Program} {w : World} {A : Around} {E : Value → Shared → Prop} {s : Shared} {env : Env} {h₀ : Heap} {target : Expr} {body : List Stmt} {Q : Flow → Shared → Prop}
/-- how a turn of a loop ends that changes one cell and the frame -/
def TurnEnd (h₀ : Heap) (L : Addr) (c : Addr) (base : List (Addr × Obj)) (J : (Str → Option Value) → Obj → Prop) (s₁ : Shared) (f : Flow) (s₂ : Shared) : Prop :=
  f = .next ∧ ∃ h' tk m' oc, s₂ = { s₁ with heap := h', toks := tk } ∧ Fr h₀ L h' m' ∧ News h₀ L h' ((c, oc) :: base) ∧ J m' oc
theorem items_ind {ws : List (Addr × String)} {keep : List (Addr × Obj)} {xs : List Itm} {c : Addr} {base : List (Addr × Obj)} (hk : ∀ oc, SubL keep ((c, oc) :: base)) (hws : ∀ b ∈ ws, b.1 ≠ c ∧ ∀ p ∈ base, p.1 ≠ b.1)
    (J : Nat → (Str → Option Value) → Obj → Prop)
    (step : ∀ i a m oc, xs[i]? = some a → J i m oc → ∀ v h tk own, a.Is v h → (∀ p ∈ own, p.1 ≠ c) → Fr h₀ env.locals h m → News h₀ env.locals h ((c, oc) :: (base ++ own)) →
      wpAny (model prog w) A (assign target env v) (fun _ s₂ => wpAny (model prog w) A (execs body env) (TurnEnd h₀ env.locals c (base ++ own) (J (i + 1)) { s with heap := h, toks := tk }) E s₂) E { s with heap := h, toks := tk })
    (fin : ∀ m oc, J xs.length m oc → ∀ h tk, Fr h₀ env.locals h m → News h₀ env.locals h ((c, oc) :: base) → Q .next { s with heap := h, toks := tk }) :
    ∀ k i m oc, i + k = xs.length → J i m oc → ItemsRest prog w A E h₀ env target body Q s ws keep (xs.drop i) m ((c, oc) :: base)
  | 0, i, m, oc, e, h => by
    obtain rfl : i = xs.length := by omega
    rw [List.drop_length]
    exact fin m oc h
  | k + 1, i, m, oc, e, h => by
    have hi : i < xs.length := by omega
    rw [List.drop_eq_getElem_cons hi]
    intro v h' tk hv F
    refine allObj_of fun its hits N => ?_
    have hown : ∀ p ∈ its, ∃ b ∈ ws, p.1 = b.1 := fun p hp => by
      have : p.1 ∈ ws.map (·.1) := hits ▸ List.mem_map.mpr ⟨p, hp, rfl⟩
      obtain ⟨b, hb, e⟩ := List.mem_map.mp this
      exact ⟨b, hb, e.symm⟩
    refine wpAny_mono (step i _ m oc (List.getElem?_eq_getElem hi) h v h' tk its hv (fun p hp => ?_) F (fun p hp => N p ?_)) (fun _ s₂ h₂ => wpAny_mono h₂ (fun f s₃ h₃ => ?_) fun _ _ e => e) fun _ _ e => e
    · obtain ⟨b, hb, e⟩ := hown p hp
      rw [e]; exact (hws b hb).1
    · rcases List.mem_cons.mp hp with rfl | hp
      · exact List.mem_append_right _ (.head _)
      · rcases List.mem_append.mp hp with hp | hp
        · exact List.mem_append_right _ (.tail _ hp)
        · exact List.mem_append_left _ hp
    · obtain ⟨rfl, h4, tk4, m4, oc4, rfl, F4, N4, J4⟩ := h₃
      refine ⟨h4, tk4, m4, (c, oc4) :: base, rfl, F4, fun p hp => N4 p ?_, fun p hp q hq e => ?_, hk _, items_ind hk hws J step fin k (i + 1) m4 oc4 (by omega) J4⟩
      · rcases List.mem_append.mp hp with hp | hp
        · exact .tail _ (List.mem_append_right _ hp)
        · rcases List.mem_cons.mp hp with rfl | hp
          · exact .head _
          · exact .tail _ (List.mem_append_left _ hp)
      · obtain ⟨b, hb, e'⟩ := hown q hq
        rcases List.mem_cons.mp hp with rfl | hp
        · exact (hws b hb).1 (e'.symm.trans e.symm)
        · exact (hws b hb).2 p hp (e.trans e')
/-- for x, y in zip(l1, l2): .. where a turn changes one cell and the frame -/
theorem zip_loop {elts : List Expr} {k : Nat} {pos : Pos} {l1 l2 c : Addr} {xs ys : List Value} {n1 n2 : Nat} {m₀ : Str → Option Value} {oc₀ : Obj} {base : List (Addr × Obj)}
    (hh : A.handled = none) (F : Fr h₀ env.locals s.heap m₀) (N : News h₀ env.locals s.heap ((c, oc₀) :: base)) (hm1 : (l1, listOf xs.toArray n1) ∈ base) (hm2 : (l2, listOf ys.toArray n2) ∈ base)
    (J : Nat → (Str → Option Value) → Obj → Prop) (h0 : J 0 m₀ oc₀) (hlen : ys.length = xs.length)
    (step : ∀ i x y m oc, xs[i]? = some x → ys[i]? = some y → J i m oc → ∀ T h tk own, IsTup h T #[x, y] → (∀ p ∈ own, p.1 ≠ c) → Fr h₀ env.locals h m → News h₀ env.locals h ((c, oc) :: (base ++ own)) →
      wpAny (model prog w) A (assign (.Tuple elts k pos) env (.ref T)) (fun _ s₂ => wpAny (model prog w) A (execs body env) (TurnEnd h₀ env.locals c (base ++ own) (J (i + 1)) { s with heap := h, toks := tk }) E s₂) E { s with heap := h, toks := tk })
    (fin : ∀ m oc, J xs.length m oc → ∀ h tk, Fr h₀ env.locals h m → News h₀ env.locals h ((c, oc) :: base) → Q .next { s with heap := h, toks := tk }) :
    wpAny (model prog w) A (call (.type "zip") [.ref l1, .ref l2]) (fun xv s₁ => wpAny (model prog w) A (pyIter xv) (fun it s₂ => TurnsAt prog w A h₀ env (.Tuple elts k pos) body Q E it s₂) E s₁) E s := by
  refine ktu_zip hh F N (.tail _ hm1) rfl rfl (.tail _ hm2) rfl rfl fun I hI => ?_
  have hzl : (zipItems xs ys).length = xs.length := by rw [zipItems_length, hlen, Nat.min_self]
  have key := items_ind (prog := prog) (w := w) (A := A) (E := E) (s := s) (env := env) (h₀ := h₀) (target := .Tuple elts k pos) (body := body) (Q := Q)
    (ws := [(I + 4, "zip"), (I + 2, "tuple"), (I + 3, "tuple"), (I, "list_iterator"), (I + 1, "list_iterator")]) (keep := [(l1, listOf xs.toArray n1), (l2, listOf ys.toArray n2)]) (xs := zipItems xs ys) (c := c) (base := base)
    (fun oc => ⟨.tail _ hm1, .tail _ hm2, trivial⟩) (fun b hb => ?_) J (fun i a m oc ha hJ v h tk own hv hown F' N' => ?_) (fun m oc hJ => fin m oc (hzl ▸ hJ)) (zipItems xs ys).length 0 m₀ oc₀ (Nat.zero_add _) h0
  · exact key
  · have hb' : I ≤ b.1 := by
      simp only [List.mem_cons, List.not_mem_nil, or_false] at hb
      rcases hb with rfl | rfl | rfl | rfl | rfl
      · exact Nat.le_add_right _ _
      · exact Nat.le_add_right _ _
      · exact Nat.le_add_right _ _
      · exact Nat.le_refl _
      · exact Nat.le_add_right _ _
    exact ⟨fun e => Nat.lt_irrefl _ (Nat.lt_of_lt_of_le (hI _ (.head _)) (e ▸ hb')), fun p hp e => Nat.lt_irrefl _ (Nat.lt_of_lt_of_le (hI _ (.tail _ hp)) (e ▸ hb'))⟩
  · have hi : i < xs.length := by rw [← hzl]; exact (List.getElem?_eq_some_iff.mp ha).1
    have hx := List.getElem?_eq_getElem hi
    have hy := List.getElem?_eq_getElem (l := ys) (i := i) (by omega)
    have e := zipItems_get xs ys i hx hy
    rw [ha] at e
    obtain rfl := Option.some.inj e
    obtain ⟨T, t, rfl, hT⟩ := hv
    exact step i _ _ m oc hx hy hJ T h tk own hT hown F' N'
end
end Mine
end
section
open PySem PySem.W PyProof.Rows PySem.Calls PyProof.Rows.LCg PyProof.Rows.LCt
set_option maxHeartbeats 4000000
set_option maxRecDepth 100000
namespace Mine
section
variable {prog : Program} {w : World} {A : Around} {s : Shared} {h₀ : Heap} {L : Addr} {m : Str → Option Value} {env : Env} {ct elt : Expr} {x : Str} {scope : Scope} {cl : List (Str × Addr)} {S : List (Addr × Obj) → Prop} {P : Nat → Value → Prop} {Fin : List Value → List (Addr × Obj) → Prop}
/-- a block with a test that leaves nothing behind but its items -/
theorem restT_fix (n : Nat) (base : List (Addr × Obj)) (J : Nat → List Value → Prop) (hS : S base) (h0 : J 0 [])
    (step : ∀ i ys, i < n → J i ys → ∀ v I oI C oC D m₂ h tk (E' : Value → Shared → Prop), P i v → NsObj oC m₂ → m₂ x = some v → Fr h₀ L h m → News h₀ L h ((I, oI) :: (C, oC) :: (D, lst ys) :: base) → Off3 I C D base → ((@Ne Nat I C) ∧ (@Ne Nat I D) ∧ (@Ne Nat C D)) →
      wpAny (model prog w) A (isTrue ct (compEnvC scope cl C env) (eval ct (compEnvC scope cl C env))) (fun ok s' => if ok = true then
        wpAny (model prog w) A (eval elt (compEnvC scope cl C env)) (fun y s₂ => (∃ h' tk', s₂ = { s with heap := h', toks := tk' } ∧ Fr h₀ L h' m ∧ News h₀ L h' ((I, oI) :: (C, oC) :: (D, lst ys) :: base)) ∧ J (i + 1) (ys ++ [y])) E' s'
        else (∃ h' tk', s' = { s with heap := h', toks := tk' } ∧ Fr h₀ L h' m ∧ News h₀ L h' ((I, oI) :: (C, oC) :: (D, lst ys) :: base)) ∧ J (i + 1) ys) E' { s with heap := h, toks := tk })
    (fin : ∀ ys, J n ys → Fin ys base) : CompRestT prog w A h₀ L m env ct elt x scope cl s S P Fin n 0 [] base := by
  have key : ∀ k i ys, i + k = n → J i ys → CompRestT prog w A h₀ L m env ct elt x scope cl s S P Fin k i ys base := by
    intro k
    induction k with
    | zero => intro i ys e h; obtain rfl : i = n := by omega
              exact fin ys h
    | succ k ih =>
      intro i ys e hJ v I oI C oC D m₂ h tk E' hP hC hx F N off ne
      refine wpAny_mono (step i ys (by omega) hJ v I oI C oC D m₂ h tk E' hP hC hx F N off ne) (fun ok s' hs => ?_) fun _ _ e => e
      cases ok with
      | true =>
        simp only [if_true] at hs ⊢
        refine wpAny_mono hs (fun y s₂ h₂ => ?_) fun _ _ e => e
        obtain ⟨⟨h', tk', rfl, F', N'⟩, hJ'⟩ := h₂
        exact ⟨h', tk', base, rfl, F', N', off, hS, ih (i + 1) _ (by omega) hJ'⟩
      | false =>
        simp only [Bool.false_eq_true, if_false] at hs ⊢
        obtain ⟨⟨h', tk', rfl, F', N'⟩, hJ'⟩ := hs
        exact ⟨h', tk', base, rfl, F', N', off, hS, ih (i + 1) _ (by omega) hJ'⟩
  exact key n 0 [] (Nat.zero_add n) h0
end
/-- one of four by a number from 0 to 3 -/
def sel4 {α : Type} (x0 x1 x2 x3 : α) (k : Int) : α := if k = 0 then x0 else if k = 1 then x1 else if k = 2 then x2 else x3
/-- what the table of signs holds -/
def sgW (X : Int → Str) (i j : Int) : Int := sgn (val (X i) * (10 ^ (X j).length - 1)) (val (X j) * (10 ^ (X i).length - 1))
section
variable {prog : Program} {w : World} {A : Around} {s : Shared} {Q E : Value → Shared → Prop} {h₀ : Heap} {L : Addr} {news : List (Addr × Obj)} {t u : Tok} {value slice : Expr} {l : Addr} {i j : Int}
theorem item_refs {r0 r1 r2 r3 : Addr} {n : Nat} (N : News h₀ L s.heap news) (hm : (l, listOf #[.ref r0, .ref r1, .ref r2, .ref r3] n) ∈ news) (hi : i = 0 ∨ i = 1 ∨ i = 2 ∨ i = 3)
    (h : Q (.ref (sel4 r0 r1 r2 r3 i)) s) (hs : subscripted slice false (.ref l) (.int i u) = operate [.ref l, .int i u] (getItem (.ref l) (.int i u)) := by with_unfolding_all rfl) :
    wpAny (model prog w) A (subscriptTail value slice (.ref l) (.int i u)) Q E s := by
  rcases hi with rfl | rfl | rfl | rfl
  · exact item_P N hm (by decide) (by decide) rfl h hs
  · exact item_P N hm (by decide) (by decide) rfl h hs
  · exact item_P N hm (by decide) (by decide) rfl h hs
  · exact item_P N hm (by decide) (by decide) rfl h hs
theorem item_row {r : Addr} {n : Nat} {X : Int → Str} {k : Int} {e0 e1 e2 e3 : Int} {t0 t1 t2 t3 : Tok} (N : News h₀ L s.heap news) (hm : (r, listOf #[.int e0 t0, .int e1 t1, .int e2 t2, .int e3 t3] n) ∈ news) (he : e0 = sgW X k 0 ∧ e1 = sgW X k 1 ∧ e2 = sgW X k 2 ∧ e3 = sgW X k 3) (hi : i = 0 ∨ i = 1 ∨ i = 2 ∨ i = 3)
    (h : ∀ t, Q (.int (sgW X k i) t) s) (hs : subscripted slice false (.ref r) (.int i u) = operate [.ref r, .int i u] (getItem (.ref r) (.int i u)) := by with_unfolding_all rfl) :
    wpAny (model prog w) A (subscriptTail value slice (.ref r) (.int i u)) Q E s := by
  obtain ⟨rfl, rfl, rfl, rfl⟩ := he
  rcases hi with rfl | rfl | rfl | rfl
  · exact item_P N hm (by decide) (by decide) rfl (h t0) hs
  · exact item_P N hm (by decide) (by decide) rfl (h t1) hs
  · exact item_P N hm (by decide) (by decide) rfl (h t2) hs
  · exact item_P N hm (by decide) (by decide) rfl (h t3) hs
theorem item_sign {r0 r1 r2 r3 : Addr} {X : Int → Str} {n0 n1 n2 n3 : Nat} {e00 e01 e02 e03 e10 e11 e12 e13 e20 e21 e22 e23 e30 e31 e32 e33 : Int} {t00 t01 t02 t03 t10 t11 t12 t13 t20 t21 t22 t23 t30 t31 t32 t33 : Tok} (N : News h₀ L s.heap news)
    (m0 : (r0, listOf #[.int e00 t00, .int e01 t01, .int e02 t02, .int e03 t03] n0) ∈ news) (m1 : (r1, listOf #[.int e10 t10, .int e11 t11, .int e12 t12, .int e13 t13] n1) ∈ news)
    (m2 : (r2, listOf #[.int e20 t20, .int e21 t21, .int e22 t22, .int e23 t23] n2) ∈ news) (m3 : (r3, listOf #[.int e30 t30, .int e31 t31, .int e32 t32, .int e33 t33] n3) ∈ news)
    (he0 : e00 = sgW X 0 0 ∧ e01 = sgW X 0 1 ∧ e02 = sgW X 0 2 ∧ e03 = sgW X 0 3) (he1 : e10 = sgW X 1 0 ∧ e11 = sgW X 1 1 ∧ e12 = sgW X 1 2 ∧ e13 = sgW X 1 3)
    (he2 : e20 = sgW X 2 0 ∧ e21 = sgW X 2 1 ∧ e22 = sgW X 2 2 ∧ e23 = sgW X 2 3) (he3 : e30 = sgW X 3 0 ∧ e31 = sgW X 3 1 ∧ e32 = sgW X 3 2 ∧ e33 = sgW X 3 3)
    (hi : i = 0 ∨ i = 1 ∨ i = 2 ∨ i = 3) (hj : j = 0 ∨ j = 1 ∨ j = 2 ∨ j = 3)
    (h : ∀ t, Q (.int (sgW X i j) t) s) (hs : subscripted slice false (.ref (sel4 r0 r1 r2 r3 i)) (.int j u) = operate [.ref (sel4 r0 r1 r2 r3 i), .int j u] (getItem (.ref (sel4 r0 r1 r2 r3 i)) (.int j u)) := by with_unfolding_all rfl) :
    wpAny (model prog w) A (subscriptTail value slice (.ref (sel4 r0 r1 r2 r3 i)) (.int j u)) Q E s := by
  rcases hi with rfl | rfl | rfl | rfl
  · exact item_row (X := X) (k := 0) (r := r0) N m0 he0 hj h hs
  · exact item_row (X := X) (k := 1) (r := r1) N m1 he1 hj h hs
  · exact item_row (X := X) (k := 2) (r := r2) N m2 he2 hj h hs
  · exact item_row (X := X) (k := 3) (r := r3) N m3 he3 hj h hs
end
/-- an order has no rise if and only if its number is the greatest -/
theorem rises_law {X : Int → Str} (hX : ∀ k, ∃ j, Word j (X k)) {o : List Int} (ho : o ∈ ordsOf 4) {M : Int} (hM : M ∈ (ordsOf 4).map fun o => val (catS X o)) (hmax : ∀ k ∈ (ordsOf 4).map fun o => val (catS X o), k ≤ M) :
    (∀ i, i < 3 → ¬ sgW X (o.getD i 0) (o.getD (i + 1) 0) < 0) ↔ val (catS X o) = M := by
  have key := ho
  obtain ⟨a, b, c, d, rfl⟩ := ords_shape o ho
  have law := order_law (p := pN X) (l := lN X) (lN_pos hX) key
  have s : ∀ x y, ¬ sgW X x y < 0 ↔ R (pN X) (lN X) x y := fun x y => by
    unfold sgW
    rw [sign_lt]
    exact Classical.not_not
  have e1 : (∀ i, i < 3 → ¬ sgW X ([a, b, c, d].getD i 0) ([a, b, c, d].getD (i + 1) 0) < 0) ↔ (R (pN X) (lN X) a b ∧ R (pN X) (lN X) b c ∧ R (pN X) (lN X) c d) := by
    constructor
    · intro h
      exact ⟨(s a b).mp (h 0 (by decide)), (s b c).mp (h 1 (by decide)), (s c d).mp (h 2 (by decide))⟩
    · rintro ⟨h1, h2, h3⟩ i hi
      match i, hi with
      | 0, _ => exact (s a b).mpr h1
      | 1, _ => exact (s b c).mpr h2
      | 2, _ => exact (s c d).mpr h3
  rw [e1, law]
  constructor
  · intro h
    have h1 := hmax _ (List.mem_map.mpr ⟨_, key, rfl⟩)
    obtain ⟨o', ho', rfl⟩ := List.mem_map.mp hM
    have h2 := h o' ho'
    rw [cat_val, cat_val] at *
    omega
  · intro h o' ho'
    have h1 := hmax _ (List.mem_map.mpr ⟨o', ho', rfl⟩)
    rw [← h, cat_val, cat_val] at h1
    omega
end Mine
end
section
open PySem PySem.W PyProof.Rows PySem.Calls PySem.Spec
set_option maxHeartbeats 4000000
set_option maxRecDepth 100000
namespace Mine
/-- one more row of the table of signs -/
def RowsOk (X : Int → Str) : Nat → List (Addr × Obj) → Prop
  | _, [] => True
  | i, (_, o) :: r => (∃ zs n, o = listOf (List.toArray zs) n ∧ IntsAre zs ((List.range 4).map fun (j : Nat) => sgW X (i : Int) (j : Int))) ∧ RowsOk X (i + 1) r
theorem RowsOk.snoc {X : Int → Str} {zs : List Value} {n : Nat} {a : Addr} : ∀ {rows : List (Addr × Obj)} {i : Nat}, RowsOk X i rows → IntsAre zs ((List.range 4).map fun (j : Nat) => sgW X ((i + rows.length : Nat) : Int) (j : Int)) → RowsOk X i (rows ++ [(a, listOf (List.toArray zs) n)])
  | [], i, _, h => ⟨⟨zs, n, rfl, h⟩, trivial⟩
  | (_, _) :: r, i, ⟨h1, h2⟩, h => ⟨h1, RowsOk.snoc (i := i + 1) h2 (by rw [List.length_cons] at h; rwa [show i + 1 + r.length = i + (r.length + 1) by omega])⟩
def refs (rows : List (Addr × Obj)) : List Value := rows.map fun p => .ref p.1
end Mine
end
section
open PySem PySem.W PyProof.Rows PySem.Calls PySem.Spec
set_option maxHeartbeats 4000000
set_option maxRecDepth 100000
namespace Mine
section
variable {prog : Program} {w : World} {A : Around} {E : Value → Shared → Prop} {s : Shared} {env : Env} {h₀ : Heap} {x : Str} {body : List Stmt} {Q : Flow → Shared → Prop} {rg : Addr} {t₀ u₀ v₀ : Tok} {m₀ u : Str → Option Value} {base : List (Addr × Obj)}
/-- for x in range(4): .. that puts one int a turn behind the list r -/
theorem cells_loop {r : Addr} {n0 : Nat} (g : Int → Int) (stored : List Str)
    (hh : A.handled = none) (hr : IsRange s.heap rg 0 4 1 t₀ u₀ v₀) (F : Fr h₀ env.locals s.heap (mix stored u m₀)) (N : News h₀ env.locals s.heap ((r, listOf #[] n0) :: base))
    (step : ∀ (i : Nat) u zs n I it t h tk, i < 4 → IntsAre zs ((List.range i).map fun (j : Nat) => g (j : Int)) → @Ne Nat I r → (∀ p ∈ base, @Ne Nat p.1 I) → Fr h₀ env.locals h (fun y => if y = x then some (.int (i : Int) t) else mix stored u m₀ y) → News h₀ env.locals h ((I, it) :: (r, listOf (List.toArray zs) n) :: base) →
      wpAny (model prog w) A (execs body env) (fun f s₂ => f = .next ∧ ∃ h' tk' m' t' n', s₂ = { s with heap := h', toks := tk' } ∧ Fr h₀ env.locals h' m' ∧ (∀ y, stored.contains y = false → m' y = m₀ y) ∧ News h₀ env.locals h' ((I, it) :: (r, listOf (List.toArray (zs ++ [.int (g (i : Int)) t'])) n') :: base)) E { s with heap := h, toks := tk })
    (done : ∀ u zs n h tk, IntsAre zs ((List.range 4).map fun (j : Nat) => g (j : Int)) → Fr h₀ env.locals h (mix stored u m₀) → News h₀ env.locals h ((r, listOf (List.toArray zs) n) :: base) → Q .next { s with heap := h, toks := tk }) :
    wpAny (model prog w) A (pyIter (.ref rg)) (fun it s₂ => LoopAtV prog w A h₀ env x body Q E it s₂) E s := by
  refine range_loop (n := 4) stored hh hr (by decide) (by rfl) F N (fun i news => ∃ zs n, IntsAre zs ((List.range i).map fun (j : Nat) => g (j : Int)) ∧ news = (r, listOf (List.toArray zs) n) :: base) ⟨[], n0, .nil, rfl⟩ ?_ ?_
  · rintro i u news I it t h tk hi ⟨zs, n, hz, rfl⟩ hI F' N'
    rw [Int.zero_add] at F'
    refine wpAny_mono (step i u zs n I it t h tk hi hz (Ne.symm (hI _ (.head _))) (fun p hp => hI p (.tail _ hp)) F' N') (fun f s₂ h₂ => ?_) fun _ _ e => e
    obtain ⟨rfl, h', tk', m', t', n', rfl, F2, hm, N2⟩ := h₂
    refine ⟨rfl, h', tk', m', _, rfl, F2, hm, N2, fun p hp => ?_, _, n', ?_, rfl⟩
    · rcases List.mem_cons.mp hp with rfl | hp
      · have hr := hI _ (.head _)
        exact hr
      · exact hI p (.tail _ hp)
    · rw [List.range_succ, List.map_append]
      exact ksk_snoc hz
  · rintro u news h tk ⟨zs, n, hz, rfl⟩ F' N'
    exact done u zs n h tk hz F' N'
/-- for x in range(4): .. that puts one row a turn behind the list Ds -/
theorem rows_loop {Ds : Addr} {n0 : Nat} (X : Int → Str) (stored : List Str)
    (hh : A.handled = none) (hr : IsRange s.heap rg 0 4 1 t₀ u₀ v₀) (F : Fr h₀ env.locals s.heap (mix stored u m₀)) (N : News h₀ env.locals s.heap ((Ds, listOf #[] n0) :: base))
    (step : ∀ (i : Nat) u rows n I it t h tk, i < 4 → rows.length = i → (∀ p ∈ rows, @Ne Nat p.1 Ds) → @Ne Nat Ds I → (∀ p ∈ rows, @Ne Nat p.1 I) → (∀ p ∈ base, @Ne Nat p.1 I) → Fr h₀ env.locals h (fun y => if y = x then some (.int (i : Int) t) else mix stored u m₀ y) → News h₀ env.locals h ((I, it) :: (Ds, listOf (List.toArray (refs rows)) n) :: (base ++ rows)) →
      wpAny (model prog w) A (execs body env) (fun f s₂ => f = .next ∧ ∃ h' tk' m' r zs nz n', s₂ = { s with heap := h', toks := tk' } ∧ Fr h₀ env.locals h' m' ∧ (∀ y, stored.contains y = false → m' y = m₀ y) ∧ @Ne Nat r I ∧ @Ne Nat r Ds ∧ IntsAre zs ((List.range 4).map fun (j : Nat) => sgW X (i : Int) (j : Int)) ∧
        News h₀ env.locals h' ((I, it) :: (Ds, listOf (List.toArray (refs rows ++ [.ref r])) n') :: (r, listOf (List.toArray zs) nz) :: (base ++ rows))) E { s with heap := h, toks := tk })
    (done : ∀ u rows n h tk, rows.length = 4 → RowsOk X 0 rows → (∀ p ∈ rows, @Ne Nat p.1 Ds) → Fr h₀ env.locals h (mix stored u m₀) → News h₀ env.locals h ((Ds, listOf (List.toArray (refs rows)) n) :: (base ++ rows)) → Q .next { s with heap := h, toks := tk }) :
    wpAny (model prog w) A (pyIter (.ref rg)) (fun it s₂ => LoopAtV prog w A h₀ env x body Q E it s₂) E s := by
  refine range_loop (n := 4) stored hh hr (by decide) (by rfl) F N (fun i news => ∃ rows n, rows.length = i ∧ RowsOk X 0 rows ∧ (∀ p ∈ rows, @Ne Nat p.1 Ds) ∧ news = (Ds, listOf (List.toArray (refs rows)) n) :: (base ++ rows)) ⟨[], n0, rfl, trivial, (fun _ h => nomatch h), by rw [List.append_nil]; rfl⟩ ?_ ?_
  · rintro i u news I it t h tk hi ⟨rows, n, hl, hok, hD, rfl⟩ hI F' N'
    rw [Int.zero_add] at F'
    refine wpAny_mono (step i u rows n I it t h tk hi hl hD (hI _ (.head _)) (fun p hp => hI p (.tail _ (List.mem_append_right _ hp))) (fun p hp => hI p (.tail _ (List.mem_append_left _ hp))) F' N') (fun f s₂ h₂ => ?_) fun _ _ e => e
    obtain ⟨rfl, h', tk', m', r, zs, nz, n', rfl, F2, hm, hrI, hrD, hz, N2⟩ := h₂
    refine ⟨rfl, h', tk', m', _, rfl, F2, hm, fun p hp => N2 p ?_, fun p hp => ?_, rows ++ [(r, listOf (List.toArray zs) nz)], n', by rw [List.length_append, hl]; rfl, hok.snoc (by rw [Nat.zero_add, hl]; exact hz), fun p hp => ?_, rfl⟩
    · rw [refs, List.map_append] at hp
      rcases List.mem_cons.mp hp with rfl | hp
      · exact .head _
      refine .tail _ ?_
      rcases List.mem_cons.mp hp with rfl | hp
      · exact .head _
      refine .tail _ ?_
      rw [← List.append_assoc] at hp
      rcases List.mem_append.mp hp with hp | hp
      · exact .tail _ hp
      · rw [List.mem_singleton.mp hp]; exact .head _
    · rcases List.mem_cons.mp hp with rfl | hp
      · have hr := hI _ (.head _)
        exact hr
      rw [← List.append_assoc] at hp
      rcases List.mem_append.mp hp with hp | hp
      · exact hI p (.tail _ hp)
      · rw [List.mem_singleton.mp hp]; exact hrI
    · rcases List.mem_append.mp hp with hp | hp
      · exact hD p hp
      · rw [List.mem_singleton.mp hp]; exact hrD
  · rintro u news h tk ⟨rows, n, hl, hok, hD, rfl⟩ F' N'
    exact done u rows n h tk hl hok hD F' N'
end
/-- a row of the table of signs -/
abbrev rowOf (X : Int → Str) (i : Int) (t0 t1 t2 t3 : Tok) (n : Nat) : Obj := listOf #[.int (sgW X i 0) t0, .int (sgW X i 1) t1, .int (sgW X i 2) t2, .int (sgW X i 3) t3] n
theorem row_lit {X : Int → Str} {zs : List Value} {n : Nat} {i : Int} (h : IntsAre zs ((List.range 4).map fun (j : Nat) => sgW X i (j : Int))) : ∃ t0 t1 t2 t3, listOf (List.toArray zs) n = rowOf X i t0 t1 t2 t3 n := by
  have e : (List.range 4).map (fun (j : Nat) => sgW X i (j : Int)) = [sgW X i 0, sgW X i 1, sgW X i 2, sgW X i 3] := rfl
  rw [e] at h
  obtain ⟨t0, z1, e0, h0⟩ := h.cons_inv
  obtain ⟨t1, z2, e1, h1⟩ := h0.cons_inv
  obtain ⟨t2, z3, e2, h2⟩ := h1.cons_inv
  obtain ⟨t3, z4, e3, h3⟩ := h2.cons_inv
  rw [e0, e1, e2, e3, h3.nil_inv]
  exact ⟨t0, t1, t2, t3, rfl⟩
theorem rows_one {X : Int → Str} {i : Nat} {k : Nat} {rows : List (Addr × Obj)} (hl : rows.length = k + 1) (h : RowsOk X i rows) : ∃ r n t0 t1 t2 t3 rest, rows = (r, rowOf X (i : Int) t0 t1 t2 t3 n) :: rest ∧ rest.length = k ∧ RowsOk X (i + 1) rest := by
  cases rows with
  | nil => cases hl
  | cons q rest =>
    obtain ⟨r, o⟩ := q
    obtain ⟨⟨z, n, e, hz⟩, h2⟩ := h
    obtain ⟨t0, t1, t2, t3, f⟩ := row_lit (n := n) hz
    exact ⟨r, n, t0, t1, t2, t3, rest, by rw [e, f], Nat.succ.inj hl, h2⟩
theorem rows_lit {X : Int → Str} {rows : List (Addr × Obj)} (hl : rows.length = 4) (h : RowsOk X 0 rows) :
    ∃ r0 r1 r2 r3 a0 a1 a2 a3 b0 b1 b2 b3 c0 c1 c2 c3 d0 d1 d2 d3 n0 n1 n2 n3, rows = [(r0, rowOf X 0 a0 a1 a2 a3 n0), (r1, rowOf X 1 b0 b1 b2 b3 n1), (r2, rowOf X 2 c0 c1 c2 c3 n2), (r3, rowOf X 3 d0 d1 d2 d3 n3)] := by
  obtain ⟨r0, n0, a0, a1, a2, a3, s0, e0, l0, h0⟩ := rows_one hl h
  obtain ⟨r1, n1, b0, b1, b2, b3, s1, e1, l1, h1⟩ := rows_one l0 h0
  obtain ⟨r2, n2, c0, c1, c2, c3, s2, e2, l2, h2⟩ := rows_one l1 h1
  obtain ⟨r3, n3, d0, d1, d2, d3, s3, e3, l3, h3⟩ := rows_one l2 h2
  rw [e0, e1, e2, e3, List.eq_nil_of_length_eq_zero l3]
  exact ⟨r0, r1, r2, r3, a0, a1, a2, a3, b0, b1, b2, b3, c0, c1, c2, c3, d0, d1, d2, d3, n0, n1, n2, n3, rfl⟩
section
variable {prog : Program} {w : World} {A : Around} {s : Shared} {Q E : Value → Shared → Prop} {h₀ : Heap} {L l : Addr} {news : List (Addr × Obj)} {u : Tok} {n : Nat} {i : Int} {value slice : Expr}
/-- one of four ints by a number from 0 to 3 -/
theorem item_ints (g : Int → Int) {t0 t1 t2 t3 : Tok} (N : News h₀ L s.heap news) (hm : (l, listOf #[.int (g 0) t0, .int (g 1) t1, .int (g 2) t2, .int (g 3) t3] n) ∈ news) (hi : i = 0 ∨ i = 1 ∨ i = 2 ∨ i = 3)
    (h : ∀ t, Q (.int (g i) t) s) (hs : subscripted slice false (.ref l) (.int i u) = operate [.ref l, .int i u] (getItem (.ref l) (.int i u)) := by with_unfolding_all rfl) :
    wpAny (model prog w) A (subscriptTail value slice (.ref l) (.int i u)) Q E s := by
  rcases hi with rfl | rfl | rfl | rfl
  · exact item_P N hm (by decide) (by decide) rfl (h t0) hs
  · exact item_P N hm (by decide) (by decide) rfl (h t1) hs
  · exact item_P N hm (by decide) (by decide) rfl (h t2) hs
  · exact item_P N hm (by decide) (by decide) rfl (h t3) hs
/-- one of four texts by a number from 0 to 3 -/
theorem item_texts (g : Int → Str) {t0 t1 t2 t3 : Tok} (N : News h₀ L s.heap news) (hm : (l, listOf #[.str (g 0) t0, .str (g 1) t1, .str (g 2) t2, .str (g 3) t3] n) ∈ news) (hi : i = 0 ∨ i = 1 ∨ i = 2 ∨ i = 3)
    (h : ∀ t, Q (.str (g i) t) s) (hs : subscripted slice false (.ref l) (.int i u) = operate [.ref l, .int i u] (getItem (.ref l) (.int i u)) := by with_unfolding_all rfl) :
    wpAny (model prog w) A (subscriptTail value slice (.ref l) (.int i u)) Q E s := by
  rcases hi with rfl | rfl | rfl | rfl
  · exact item_P N hm (by decide) (by decide) rfl (h t0) hs
  · exact item_P N hm (by decide) (by decide) rfl (h t1) hs
  · exact item_P N hm (by decide) (by decide) rfl (h t2) hs
  · exact item_P N hm (by decide) (by decide) rfl (h t3) hs
/-- the last of the rows -/
theorem item_last {rows : List (Addr × Obj)} {r : Addr} {k : Nat} (N : News h₀ L s.heap news) (hm : (l, listOf (List.toArray (refs rows ++ [.ref r])) n) ∈ news) (hk : rows.length = k) (h4 : k < 4)
    (h : Q (.ref r) s) (hs : subscripted slice false (.ref l) (.int (k : Int) u) = operate [.ref l, .int (k : Int) u] (getItem (.ref l) (.int (k : Int) u)) := by with_unfolding_all rfl) :
    wpAny (model prog w) A (subscriptTail value slice (.ref l) (.int (k : Int) u)) Q E s := by
  refine item_N N hm (by omega) (by omega) ?_ h hs
  subst hk
  have e : (refs rows).length = rows.length := List.length_map ..
  rw [Int.toNat_natCast, List.getElem?_toArray, ← e, List.getElem?_append_right (Nat.le_refl _), Nat.sub_self]
  rfl
end
end Mine
end
section
open PySem PySem.W PyProof.Rows PySem.Calls
namespace Mine
/-- the law's own statements and names, as the row holds them -/
def lawBody : List Stmt := match PySem.Challenge.pw_zd0002_01.main.body.getLast? with
  | some (.FunctionDef _ _ b _ _ _ _ _ _ _) => b
  | _ => []
def lawScope : Scope := match PySem.Challenge.pw_zd0002_01.main.body.getLast? with
  | some (.FunctionDef _ _ _ _ _ _ sc _ _ _) => sc
  | _ => default
abbrev lawEnv (L fa : Addr) : Env := envOfC (Str.ofString "law") lawScope L fa (.ref 109)
abbrev lawA (L fa : Addr) : Around := callerA.deeper (lawEnv L fa)
end Mine
end
section
open PySem PySem.W PyProof.Rows PySem.Calls
namespace Mine
theorem ints_map {α : Type} (f : α → Value) (g : α → Int) : ∀ {l : List α}, (∀ p ∈ l, ∃ t, f p = .int (g p) t) → IntsAre (l.map f) (l.map g)
  | [], _ => .nil
  | p :: r, h => by
    obtain ⟨t, e⟩ := h p (.head _)
    rw [List.map_cons, List.map_cons, e]
    exact .cons _ _ (ints_map f g fun q hq => h q (.tail _ hq))
def numV : Value → Int
  | .int n _ => n
  | _ => 0
theorem numV_map : ∀ {vs : List Value} {ns : List Int}, IntsAre vs ns → vs.map numV = ns
  | _, _, .nil => rfl
  | _, _, .cons n t h => by rw [List.map_cons, numV_map h]; rfl
/-- what sorted(range(n), key=f) gives back, as numbers -/
theorem out_places {kz : List Str} {vs out : List Value} {n : Nat} (hv : IntsAre vs (rangeKs 0 n)) (hl : kz.length = n) (h : Srt.Out kz vs out) :
    ∃ pz : List Int, IntsAre out pz ∧ pz.Perm ((List.range n).map fun (i : Nat) => (i : Int)) ∧ pz.Pairwise fun i j => ¬ ((kz.getD j.toNat ⟨#[]⟩).cps.toList < (kz.getD i.toNat ⟨#[]⟩).cps.toList) := by
  obtain ⟨ps, hp, rfl, hs⟩ := h
  have hvl : vs.length = n := by rw [hv.length, rangeKs_length]
  have key : ∀ p ∈ ps, ∃ (i : Nat) (t : Tok), i < n ∧ p.1 = kz.getD i ⟨#[]⟩ ∧ p.2 = .int (i : Int) t := fun p hm => by
    obtain ⟨i, hi, e⟩ := List.getElem_of_mem (hp.mem_iff.mp hm)
    have hi' : i < n := by rw [List.length_zip] at hi; omega
    have e1 : p.1 = kz[i] := by rw [← e, List.getElem_zip]
    have e2 : p.2 = vs[i] := by rw [← e, List.getElem_zip]
    obtain ⟨t, ht⟩ := hv.int_at i vs[i] (List.getElem?_eq_getElem _)
    rw [kll_at hi', Int.zero_add] at ht
    exact ⟨i, t, hi', by rw [e1]; simp [hl, hi'], e2.trans ht⟩
  refine ⟨ps.map fun p => numV p.2, ints_map Prod.snd (fun p => numV p.2) fun p hm => ?_, ?_, ?_⟩
  · obtain ⟨i, t, _, _, e⟩ := key p hm
    exact ⟨t, by rw [e]; rfl⟩
  · have h1 := hp.map fun p : Str × Value => numV p.2
    have h2 : (kz.zip vs).map (fun p : Str × Value => numV p.2) = (List.range n).map fun (i : Nat) => (i : Int) := by
      have e : (kz.zip vs).map (fun p : Str × Value => numV p.2) = ((kz.zip vs).map Prod.snd).map numV := by rw [List.map_map]; rfl
      rw [e, List.map_snd_zip (by omega), numV_map hv]
      unfold rangeKs
      exact List.map_congr_left fun i _ => Int.zero_add _
    rwa [h2] at h1
  · refine List.pairwise_map.mpr (hs.imp_of_mem fun {p q} hpm hqm hpq => ?_)
    obtain ⟨i, t, _, e1, e2⟩ := key p hpm
    obtain ⟨j, u, _, f1, f2⟩ := key q hqm
    have g1 : (numV p.2).toNat = i := by rw [e2]; exact Int.toNat_natCast i
    have g2 : (numV q.2).toNat = j := by rw [f2]; exact Int.toNat_natCast j
    rw [g1, g2, ← e1, ← f1]
    exact hpq
end Mine
end
section
open PySem PySem.W PyProof.Rows PySem.Calls
set_option maxHeartbeats 4000000
set_option maxRecDepth 100000
namespace Mine
section
variable {prog : Program} {w : World} {A : Around} {s : Shared} {K : Frag} {L : Addr} {h₀ : Heap} {m mg mb : Str → Option Value} {news : List (Addr × Obj)} {p : Program} {loose : List Str} {mean : ExcName → Option Value}
/-- a range that was just made, laid onto the ledger -/
theorem range_news {h' : Heap} {r : Addr} {a b c : Int} {t u v : Tok} (hn : h₀.get? r = none) (hL : r ≠ L) (N : News h₀ L h' news) (R : IsRange h' r a b c t u v) :
    News h₀ L h' ((r, { cls := .type "range", dict := none, data := .fields #[.int a t, .int b u, .int c v], slots := #[] }) :: news) := fun p hp => by
  rcases List.mem_cons.mp hp with rfl | hp
  · exact ⟨R, hL, hn⟩
  · exact N p hp
/-- a call of a lambda that stands in the ledger -/
theorem enterL {name qual : Str} {params : Arguments} {body : Expr} {scope : Scope} {cl : List (Str × Addr)} {pm ctv : Value} {c' f : Addr} {vs : List Value} {binds : List (Str × Value)} {R : Value → Prop}
    (F : Fr h₀ L s.heap m) (X : K.In h₀) (N : News h₀ L s.heap news) (T : Top p loose mean mg mb h₀)
    (ho : (f, kla_obj name qual params body scope cl pm c' ctv) ∈ news) (hcd : s.heap.CodeRec (.ref c') qual) (hroom : A.depth < recursionLimit)
    (hbind : bindArgs (kla_fn name qual params body scope cl pm (.ref c') ctv) ⟨vs, []⟩ = pure binds) (hloc : ∀ y ∈ binds, scope.names.lookup y.1 = some .local)
    (h : ∀ g L' h₁, Fr g L' h₁ (fun y => binds.reverse.lookup y) → News g L' h₁ news → K.In g → Top p loose mean mg mb g →
      wpAny (model prog w) (A.deeper (envX qual scope L' f (.ref c') cl)) (eval body (envX qual scope L' f (.ref c') cl))
        (fun v s' => ∃ h' tk' m', s' = { s with heap := h', toks := tk' } ∧ Fr g L' h' m' ∧ News g L' h' news ∧ R v) (fun _ _ => False) { s with heap := h₁, toks := s.toks + binds.length })
    (hco : scope.isCoroutine = false) (hgen : scope.isGenerator = false) (hk : scope.kind = .function) (hcell : ∀ x ∈ scope.names, x.2 ≠ .cell) :
    wpAny (model prog w) A (call (.ref f) vs) (fun v s' => ∃ h' tk', s' = { s with heap := h', toks := tk' } ∧ Fr h₀ L h' m ∧ News h₀ L h' news ∧ R v) (fun _ _ => False) s := by
  refine wpAny_call ?_
  refine kla_callFunE hroom (N _ ho).1 rfl hco hgen rfl hcd ?_
  rw [hbind]
  refine wpAny_pure (wpAny_newFunctionEnv hcell hloc (fun h₁ hns hsb => ⟨((T.nolimit).keeps F.keep).fresh _ hsb, ?_⟩) hk)
  show codeAny _ _ (.expr body (envX qual scope s.heap.objs.size f (.ref c') cl)) _ _
  have hk₁ : ∀ b o, s.heap.get? b = some o → h₁.get? b = some o := fun b o e => hsb.extBut b o (Nat.ne_of_lt (Heap.lt_size e)) (Heap.get?_push_of_some _ e)
  have st : ∀ b o, h₀.get? b = some o → (hideAll s.heap (news.map (·.1))).get? b = some o := fun b o e => hideAll_get _ (F.keep b o e) fun hm => by
    obtain ⟨q, hq, rfl⟩ := List.mem_map.mp hm
    rw [(N q hq).2.2] at e; cases e
  have hLn : L ∉ news.map (·.1) := fun hm => by
    obtain ⟨q, hq, e⟩ := List.mem_map.mp hm
    exact (N q hq).2.1 e
  refine kla_codeExpr (wpAny_mono (h (hideAll s.heap (news.map (·.1))) s.heap.objs.size h₁ ⟨hns, fun b o e => hk₁ b o (of_hideAll _ e), Nat.le_of_eq (hideAll_size _ _)⟩
    (fun p hp => ⟨hk₁ _ _ (N p hp).1, Nat.ne_of_lt (Heap.lt_size (N p hp).1), hideAll_none _ (List.mem_map_of_mem hp)⟩) (X.keeps st) (T.keeps st)) (fun v s' hl => ?_) fun _ _ y => y.elim)
  obtain ⟨h', tk', m', rfl, F', N', r⟩ := hl
  exact ⟨h', tk', rfl, ⟨F.ns.at' fun o e => F'.keep _ _ (hideAll_get _ e hLn), fun b o e => F'.keep _ _ (st b o e), F.above⟩, fun q hq => ⟨(N' q hq).1, (N q hq).2⟩, r⟩
end
end Mine
end
section
open PySem PySem.W PyProof.Rows PySem.Calls PyProof.Rows.LCg PyProof.Rows.LCp
set_option maxHeartbeats 4000000
set_option maxRecDepth 100000
namespace Mine
section
variable {prog : Program} {w : World} {A : Around} {E : Value → Shared → Prop} {s : Shared} {h₀ : Heap} {L : Addr} {m : Str → Option Value} {env : Env}
theorem fr_wr {h h' : Heap} {wr : List Addr} (F : Fr h₀ L h m) (hk : ∀ b o, b ∉ wr → h.get? b = some o → h'.get? b = some o) (hL : L ∉ wr) (h0 : ∀ b ∈ wr, h₀.get? b = none) : Fr h₀ L h' m :=
  ⟨F.ns.at' fun o e => hk L o hL e, fun b o e => hk b o (fun hm => by rw [h0 b hm] at e; cases e) (F.keep b o e), F.above⟩
theorem news_wr {h h' : Heap} {wr : List Addr} {news : List (Addr × Obj)} (N : News h₀ L h news) (hk : ∀ b o, b ∉ wr → h.get? b = some o → h'.get? b = some o) (off : ∀ p ∈ news, p.1 ∉ wr) : News h₀ L h' news :=
  fun p hp => ⟨hk _ _ (off p hp) (N p hp).1, (N p hp).2⟩
/-- a block of turns over a source of pairs that leaves nothing behind but its items -/
theorem block_Z {elt iter : Expr} {x x₂ : Str} {px px₂ tp : Pos} {tk} {scope : Scope} {cl : List (Str × Addr)} {pos : Pos} {s₂ : Shared} {z : Addr} {fp wr : List Addr} {n : Nat} {xs ys : Array Value} {St : Nat → Heap → Prop} {Mid : Nat → Addr → Heap → Prop} {news : List (Addr × Obj)}
    {J : Nat → List Value → Prop} {RR : Value → Addr → Result → Shared → Prop}
    (W : WalksT prog w A z fp wr n (fun i vals => ∃ x y, xs[i]? = some x ∧ ys[i]? = some y ∧ vals = #[x, y]) St Mid) (hsz : n ≤ sizeLine)
    (hcell : ∀ y ∈ scope.names, y.2 ≠ .cell) (hkind : scope.kind = .function) (hx : scope.names.lookup x = some .local) (hx₂ : scope.names.lookup x₂ = some .local) (hxx : x ≠ x₂) (hh : A.handled = none) (hst : St 0 s₂.heap) (hfp : ∀ b ∈ fp, b < s₂.heap.objs.size)
    (F : Fr h₀ L s₂.heap m) (N : News h₀ L s₂.heap news) (hLf : L ∉ fp) (hwr₀ : ∀ b ∈ wr, h₀.get? b = none) (off : ∀ p ∈ news, p.1 ∉ wr) (h0 : J 0 [])
    (step : ∀ i us vx vy, i < n → J i us → xs[i]? = some vx → ys[i]? = some vy → ∀ own C oC D m₂ h tk (E' : Value → Shared → Prop), NsObj oC m₂ → m₂ x = some vx → m₂ x₂ = some vy → Fr h₀ L h m → News h₀ L h ((C, oC) :: (D, lst us) :: (news ++ own)) →
      wpAny (model prog w) A (eval elt (compEnvC scope cl C env)) (fun y s₃ => (∃ h' tk', s₃ = { s₂ with heap := h', toks := tk' } ∧ Fr h₀ L h' m ∧ News h₀ L h' ((C, oC) :: (D, lst us) :: (news ++ own))) ∧ J (i + 1) (us ++ [y])) E' { s₂ with heap := h, toks := tk })
    (hRR : ∀ D C h tk m' us, Fr h₀ L h m → News h₀ L h ((D, lst us) :: news) → Off1 D news → h.Ns C m' → h₀.get? C = none → h₀.get? D = none → C ≠ L → D ≠ L → C ≠ D → (∀ p ∈ news, p.1 ≠ C) → J n us → RR (.ref D) C (.ok .next) { s₂ with heap := h, toks := tk }) :
    wpAny (model prog w) A (newList []) (fun acc s₃ => wpAny (model prog w) A (newFunctionEnv scope env.globals cl [] env.qual none .none (some env)) (fun cenv s₄ =>
      codeAny (model prog w) A (.compStart (.ListComp elt [⟨.Tuple [.Name x px, .Name x₂ px₂] tk tp, iter, [], 0⟩] scope pos) 0 (.ref z) acc { cenv with scope := relabel scope env }) (RR acc cenv.locals) s₄) E s₃) E s₂ := by
  refine wpAny_newObj_type (wpAny_newFunctionEnv hcell (by intro y hy; simp at hy) (fun h₁ hns₁ hsb₁ => ?_) hkind)
  dsimp only at hns₁ hsb₁ ⊢
  generalize hH2 : s₂.heap.push { cls := .type "list", dict := none, data := .seq ([] : List Value).toArray } = H2 at hns₁ hsb₁ ⊢
  have hC : H2.objs.size = s₂.heap.objs.size + 1 := by rw [← hH2, Heap.size_push]
  have hDC : s₂.heap.objs.size ≠ H2.objs.size := by rw [hC]; exact Nat.ne_of_lt (Nat.lt_succ_self _)
  have below : ∀ b, b < s₂.heap.objs.size → b ≠ H2.objs.size ∧ b ≠ s₂.heap.objs.size := fun b hb => ⟨by rw [hC]; exact Nat.ne_of_lt (Nat.lt_succ_of_lt hb), Nat.ne_of_lt hb⟩
  have hDf : s₂.heap.objs.size ∉ fp := fun hm => Nat.lt_irrefl _ (hfp _ hm)
  have hCf : H2.objs.size ∉ fp := fun hm => by have := hfp _ hm; rw [hC] at this; exact Nat.lt_irrefl _ (Nat.lt_of_succ_lt this)
  have hDw : s₂.heap.objs.size ∉ wr := fun hm => hDf (W.sub _ hm)
  have hCw : H2.objs.size ∉ wr := fun hm => hCf (W.sub _ hm)
  have hLw : L ∉ wr := fun hm => hLf (W.sub _ hm)
  have old : ∀ b o, s₂.heap.get? b = some o → h₁.get? b = some o := fun b o e => hsb₁.extBut b o (below b (Heap.lt_size e)).1 (Heap.get?_push_of_some _ (hH2 ▸ Heap.get?_push_of_some _ e))
  have hacc : h₁.get? s₂.heap.objs.size = some (lst []) := hsb₁.extBut _ _ hDC (Heap.get?_push_of_some _ (hH2 ▸ Heap.get?_push_size _ rfl))
  have hst₁ : St 0 h₁ := W.frame _ _ _ hst fun b _ o e => old b o e
  have fresh₀ : ∀ a, s₂.heap.objs.size ≤ a → h₀.get? a = none := fun a ha => by
    cases e : h₀.get? a with
    | none => rfl
    | some o' => exact absurd (Heap.lt_size (F.keep a o' e)) (Nat.not_lt.mpr ha)
  have hD₀ : h₀.get? s₂.heap.objs.size = none := fresh₀ _ (Nat.le_refl _)
  have hC₀ : h₀.get? H2.objs.size = none := fresh₀ _ (by rw [hC]; exact Nat.le_succ _)
  have hLlt : L < s₂.heap.objs.size := F.ns.lt
  have hDL : s₂.heap.objs.size ≠ L := Ne.symm (below L hLlt).2
  have hCL : H2.objs.size ≠ L := Ne.symm (below L hLlt).1
  have offD : ∀ p ∈ news, p.1 ≠ s₂.heap.objs.size := fun p hp => (below _ (Heap.lt_size (N p hp).1)).2
  have offC : ∀ p ∈ news, p.1 ≠ H2.objs.size := fun p hp => (below _ (Heap.lt_size (N p hp).1)).1
  have one : ∀ {l : List (Addr × Obj)}, (∀ p ∈ l, p.1 ≠ s₂.heap.objs.size) → Off1 s₂.heap.objs.size l := fun {l} h => by
    induction l with
    | nil => exact trivial
    | cons q r ih => exact ⟨h q (.head _), ih fun p hp => h p (.tail _ hp)⟩
  have offw : ∀ {us : List Value}, ∀ p ∈ (s₂.heap.objs.size, lst us) :: news, p.1 ∉ wr := fun {us} p hp => by
    rcases List.mem_cons.mp hp with rfl | hp
    · exact hDw
    · exact off p hp
  have loop : ∀ s₃ : Shared, s₃ = { s₂ with heap := h₁, toks := s₂.toks + ([] : List (Str × Value)).length } →
      codeAny (model prog w) A (.compLoop (.ListComp elt [⟨.Tuple [.Name x px, .Name x₂ px₂] tk tp, iter, [], 0⟩] scope pos) 0 (.ref z) (.ref s₂.heap.objs.size) (compEnvC scope cl H2.objs.size env))
        (RR (.ref s₂.heap.objs.size) H2.objs.size) s₃ := by
    rintro s₃ rfl
    refine codeAny_compLoop_pair
      (fun k s' => ∃ h' tk i us m', s' = { s₂ with heap := h', toks := tk } ∧ i ≤ n ∧ k = n + 1 - i ∧ us.length = i ∧ St i h' ∧ Fr h₀ L h' m ∧ h'.Ns H2.objs.size m' ∧ News h₀ L h' ((s₂.heap.objs.size, lst us) :: news) ∧ J i us) ?_ (n + 1)
      ⟨h₁, _, 0, [], _, rfl, Nat.zero_le _, rfl, rfl, hst₁, F.keeps old, hns₁, fun p hp => ?_, h0⟩
    · rintro k s' ⟨h', tk, i, us, m', rfl, hi, rfl, hyl, hst', F', hn', N', hJ⟩
      by_cases hlt : i < n
      · refine W.item i _ _ _ hlt hst' fun t vals h₂ tk₂ hP _ hT hMid hk₂ => ?_
        obtain ⟨vx, vy, hvx, hvy, rfl⟩ := hP
        refine W.go _ _ _ i t _ _ _ hMid fun h₂' hst₂ hk₂' => ?_
        have hk : ∀ b o, b ∉ wr → h'.get? b = some o → h₂'.get? b = some o := fun b o hb e => hk₂' b o hb (hk₂ b o hb e)
        have htw := W.apart i t h₂ hMid
        have ht : IsTup h₂' t #[vx, vy] := hT.at fun o e => hk₂' t o htw e
        refine assign_Tuple_tuple hh ht rfl rfl fun h₅ he => ?_
        have he' : ∀ b o, h₂'.get? b = some o → h₅.get? b = some o := fun b o e => he b o (Nat.ne_of_lt (Heap.lt_size e)) e
        refine assignInOrder_cons (wpAny_assign_Name (wpAny_storeName_local (lookup_relabel_local hx) ((hn'.at' fun o e => hk _ o hCw e).at' fun o e => he' _ o e) (fun h₆ hn₆ hs₆ => ?_) (by simp [compEnvC, relabel, hkind])))
        refine assignInOrder_cons (wpAny_assign_Name (wpAny_storeName_local (lookup_relabel_local hx₂) hn₆ (fun h₃ hn₃ hs₃ => ?_) (by simp [compEnvC, relabel, hkind])))
        refine assignInOrder_nil ?_
        have old3 : ∀ b o, b ≠ H2.objs.size → h₂'.get? b = some o → h₃.get? b = some o := fun b o hb e => hs₃.extBut b o hb (hs₆.extBut b o hb (he' b o e))
        have hst₃ : St (i + 1) h₃ := W.frame _ _ _ hst₂ fun b hb o e => old3 b o (fun q => hCf (by rw [← q]; exact hb)) e
        obtain ⟨oC, heC, hoC⟩ := ns_obj hn₃
        have F₃ : Fr h₀ L h₃ m := (((fr_wr F' hk hLw hwr₀).keeps he').change hs₆ hCL hC₀).change hs₃ hCL hC₀
        have N₂ : News h₀ L h₂' ((s₂.heap.objs.size, lst us) :: news) := news_wr N' hk offw
        have Nown : News h₀ L h₃ (ownOf h₀ fp h₃) := news_ownOf hLf
        have N₃ : News h₀ L h₃ ((H2.objs.size, oC) :: (s₂.heap.objs.size, lst us) :: (news ++ ownOf h₀ fp h₃)) := fun p hp => by
          rcases List.mem_cons.mp hp with rfl | hp
          · exact ⟨heC, hCL, hC₀⟩
          · rcases List.mem_cons.mp hp with rfl | hp
            · have q := N₂ _ (.head _)
              exact ⟨old3 _ _ hDC q.1, q.2⟩
            · rcases List.mem_append.mp hp with hp | hp
              · have q := N₂ p (.tail _ hp)
                exact ⟨old3 _ _ (offC p hp) q.1, q.2⟩
              · exact Nown p hp
        refine wpAny_mono (step i us vx vy hlt hJ hvx hvy (ownOf h₀ fp h₃) H2.objs.size oC s₂.heap.objs.size _ h₃ _ _ hoC (by simp [hxx]) (by simp) F₃ N₃) (fun y s₄ h₄ => ?_) fun _ _ e => e
        obtain ⟨⟨h₄, tk₄, rfl, F₄, N₄⟩, hJ₄⟩ := h₄
        have zC := (N₄ (H2.objs.size, oC) (.head _)).1
        have zD := (N₄ (s₂.heap.objs.size, lst us) (.tail _ (.head _))).1
        have hst₄ : St (i + 1) h₄ := W.frame _ _ _ hst₃ fun b hb o e => by
          cases hn : h₀.get? b with
          | some o₀ =>
            have : o₀ = o := by have q := F₃.keep b o₀ hn; rw [e] at q; exact (Option.some.inj q).symm
            exact this ▸ F₄.keep b o₀ hn
          | none => exact (N₄ _ (.tail _ (.tail _ (List.mem_append_right _ (mem_ownOf hb hn e))))).1
        refine append_at (hsz := by show us.toArray.size ≤ sizeLine; rw [List.size_toArray, hyl]; exact Nat.le_trans hi hsz) zD fun h₅ hs₅ hD₅ => ?_
        refine ⟨n + 1 - (i + 1), by omega, h₅, tk₄, i + 1, us ++ [y], _, rfl, hlt, rfl, by rw [List.length_append, List.length_singleton, hyl], W.frame _ _ _ hst₄ fun b hb o e => hs₅.extBut b o (fun q => hDf (q ▸ hb)) e, F₄.change hs₅ hDL hD₀,
          (hoC.ns zC).sameBut hs₅ (Ne.symm hDC), fun p hp => ?_, hJ₄⟩
        rcases List.mem_cons.mp hp with rfl | hp
        · exact ⟨hD₅.trans (congrArg some (lst_snoc us y)), hDL, hD₀⟩
        · have q := N₄ p (.tail _ (.tail _ (List.mem_append_left _ hp)))
          exact ⟨hs₅.extBut _ _ (offD p hp) q.1, q.2⟩
      · obtain rfl : i = n := Nat.le_antisymm hi (Nat.not_lt.mp hlt)
        refine W.done _ _ _ hst' fun h₂ tk₂ hk₂ => ?_
        exact hRR _ _ h₂ tk₂ _ us (fr_wr F' hk₂ hLw hwr₀) (news_wr N' hk₂ offw) (one offD) (hn'.at' fun o e => hk₂ _ o hCw e) hC₀ hD₀ hCL hDL (Ne.symm hDC) offC hJ
    · rcases List.mem_cons.mp hp with rfl | hp
      · exact ⟨hacc, hDL, hD₀⟩
      · exact ⟨old _ _ (N p hp).1, (N p hp).2⟩
  exact codeAny_compStart_list (loop _ rfl) (W.self 0 _ _ _ hst₁ (loop _ rfl))
end
end Mine
end
section
open PySem PySem.W PyProof.Rows PySem.Calls PyProof.Rows.LCg PyProof.Rows.LCp
set_option maxHeartbeats 4000000
set_option maxRecDepth 100000
namespace Mine
section
variable {prog : Program} {w : World} {A : Around} {E : Value → Shared → Prop} {s : Shared} {h₀ : Heap} {L : Addr} {m : Str → Option Value} {env : Env}
def StepZ (prog : Program) (w : World) (A : Around) (h₀ : Heap) (L : Addr) (m : Str → Option Value) (env : Env) (elt : Expr) (x x₂ : Str) (scope : Scope) (cl : List (Str × Addr)) (n : Nat) (xs ys : Array Value) (news : List (Addr × Obj)) (J : Nat → List Value → Prop) (s₂ : Shared) : Prop :=
  ∀ D i us vx vy, i < n → J i us → xs[i]? = some vx → ys[i]? = some vy → ∀ own C oC m₂ h tk (E' : Value → Shared → Prop), NsObj oC m₂ → m₂ x = some vx → m₂ x₂ = some vy → Fr h₀ L h m → News h₀ L h ((C, oC) :: (D, lst us) :: (news ++ own)) →
      wpAny (model prog w) A (eval elt (compEnvC scope cl C env)) (fun y s₃ => (∃ h' tk', s₃ = { s₂ with heap := h', toks := tk' } ∧ Fr h₀ L h' m ∧ News h₀ L h' ((C, oC) :: (D, lst us) :: (news ++ own))) ∧ J (i + 1) (us ++ [y])) E' { s₂ with heap := h, toks := tk }
def SrcZ (prog : Program) (w : World) (A : Around) (h₀ : Heap) (L : Addr) (m : Str → Option Value) (env : Env) (elt : Expr) (x x₂ : Str) (scope : Scope) (cl : List (Str × Addr)) (Fin : Shared → List Value → List (Addr × Obj) → Prop) (xv : Value) (s₁ : Shared) : Prop :=
  ∃ (z : Addr) (fp wr : List Addr) (n : Nat) (xs ys : Array Value) (St : Nat → Heap → Prop) (Mid : Nat → Addr → Heap → Prop) (news : List (Addr × Obj)) (J : Nat → List Value → Prop),
    xv = .ref z ∧ A.handled = none ∧ WalksT prog w A z fp wr n (fun i vals => ∃ x y, xs[i]? = some x ∧ ys[i]? = some y ∧ vals = #[x, y]) St Mid ∧ n ≤ sizeLine ∧ St 0 s₁.heap ∧ (∀ b ∈ fp, b < s₁.heap.objs.size) ∧ Fr h₀ L s₁.heap m ∧ News h₀ L s₁.heap news ∧ L ∉ fp ∧
      (∀ b ∈ wr, h₀.get? b = none) ∧ (∀ p ∈ news, p.1 ∉ wr) ∧ J 0 [] ∧ StepZ prog w A h₀ L m env elt x x₂ scope cl n xs ys news J s₁ ∧ ∀ us, J n us → Fin s₁ us news
theorem Assign_ListComp_Z {elt iter : Expr} {x x₂ y : Str} {px px₂ tp py : Pos} {tk} {scope : Scope} {cl : List (Str × Addr)} {pos spos : Pos} {Q : Flow → Shared → Prop} (hLe : env.locals = L)
    (hsw : swapsWith (.ListComp elt [⟨.Tuple [.Name x px, .Name x₂ px₂] tk tp, iter, [], 0⟩] scope pos) (some (.Name y py)) spos.line env = pure true)
    (hclos : closureFor scope env = pure cl) (hcell : ∀ z ∈ scope.names, z.2 ≠ .cell) (hkind : scope.kind = .function)
    (hnames : ∀ z ∈ scope.names, z.2 = .local → scope.names.lookup z.1 = some .local) (hx : scope.names.lookup x = some .local) (hx₂ : scope.names.lookup x₂ = some .local) (hxx : x ≠ x₂)
    (hy : env.kindOf y = some .local) (hp : (env.scope.kind == .class || (env.scope.kind == .module && env.locals != env.globals)) = false)
    (h : wpAny (model prog w) A (eval iter env) (SrcZ prog w A h₀ L m env elt x x₂ scope cl (fun s₂ => FinA h₀ L m s₂ y Q)) E s)
    (hs : ∀ x, foldedSetIterable iter env x = pure x := by intro _; rfl) :
    wpAny (model prog w) A (exec (.Assign [.Name y py] (.ListComp elt [⟨.Tuple [.Name x px, .Name x₂ px₂] tk tp, iter, [], 0⟩] scope pos) spos) env) Q E s := by
  subst hLe
  rw [exec_Assign_Name_used _ _ _ _ hsw]
  refine wpAny_bind (wpAny_standAt (wpAny_bind ?_))
  show wpAny _ A (do let _ ← comprehension (.ListComp elt [⟨.Tuple [.Name x px, .Name x₂ px₂] tk tp, iter, [], 0⟩] scope pos) scope env _ (newList []) false (eval iter env) (some (assign (.Name y py) env))) _ _ s
  refine wpAny_bind (wpAny_mono (wpAny_comprehension_free (use := some (assign (.Name y py) env)) (Q := fun _ s' => Q .next s') rfl hs hclos hkind hnames
    (wpAny_mono h (fun xv s₁ h₁ => ?_) fun _ _ e => e)) (fun _ s' hq => wpAny_pure (wpAny_pure hq)) fun _ _ e => e)
  obtain ⟨z, fp, wr, n, xs, ys, St, Mid, news, J, rfl, hh, W, hsz, hst, hfp, F, N, hLf, hwr₀, off, h0, step, hfin⟩ := h₁
  refine W.self 0 _ _ _ hst ?_
  refine block_Z W hsz hcell hkind hx hx₂ hxx hh hst hfp F N hLf hwr₀ off h0 (fun i us vx vy hi hJ hvx hvy own C oC D => step D i us vx vy hi hJ hvx hvy own C oC) ?_
  intro D C h' tk m' us F' N' o1 hn hC₀ hD₀ hCL hDL hCD offC hJ
  have fin := hfin us hJ
  show wpAny _ A (assign (.Name y py) env (.ref D)) _ _ _
  refine wpAny_assign_Name (wpAny_storeName_local hy F'.ns (fun h₂ hn₂ hs₂ => ?_) hp)
  have hL₀ : h₀.get? env.locals = none := Heap.get?_none_of_le F'.above
  have F₂ : Fr h₀ env.locals h₂ (fun z => if z = y then some (.ref D) else m z) := ⟨hn₂, fun b o e => hs₂.extBut b o (fun q => by rw [q, hL₀] at e; cases e) (F'.keep b o e), F'.above⟩
  refine ⟨m', hn.sameBut hs₂ hCL, fun h'' hs'' => fin D h'' _ (F₂.change hs'' hCL hC₀) (fun p hp => ?_) o1⟩
  have z : h₂.get? p.1 = some p.2 := hs₂.extBut _ _ (N' p hp).2.1 (N' p hp).1
  refine ⟨hs''.extBut _ _ ?_ z, (N' p hp).2⟩
  rcases List.mem_cons.mp hp with rfl | hp
  · exact Ne.symm hCD
  · exact offC p hp
theorem srcZ_zip {elt : Expr} {x x₂ : Str} {scope : Scope} {cl : List (Str × Addr)} {Fin : Shared → List Value → List (Addr × Obj) → Prop} {l1 l2 : Addr} {xs ys : Array Value} {n1 n2 : Nat} {news : List (Addr × Obj)}
    (hh : A.handled = none) (F : Fr h₀ L s.heap m) (N : News h₀ L s.heap news) (hm1 : (l1, listOf xs n1) ∈ news) (hm2 : (l2, listOf ys n2) ∈ news) (n : Nat) (hx : xs.size = n) (hy : ys.size = n) (hsz : n ≤ sizeLine) (J : Nat → List Value → Prop) (h0 : J 0 [])
    (step : ∀ g, StepZ prog w A h₀ L m env elt x x₂ scope cl n xs ys news J { s with heap := g }) (fin : ∀ g us, J n us → Fin { s with heap := g } us news) :
    wpAny (model prog w) A (call (.type "zip") [.ref l1, .ref l2]) (SrcZ prog w A h₀ L m env elt x x₂ scope cl Fin) E s := by
  have hax1 := N _ hm1
  have hax2 := N _ hm2
  have hl1 : s.heap.IsList l1 xs := ⟨_, hax1.1, rfl, n1, rfl⟩
  have hl2 : s.heap.IsList l2 ys := ⟨_, hax2.1, rfl, n2, rfl⟩
  have hlt1 : l1 < s.heap.objs.size := Heap.lt_size hax1.1
  have hlt2 : l2 < s.heap.objs.size := Heap.lt_size hax2.1
  have hLs : L < s.heap.objs.size := F.ns.lt
  have D : ZipApart (s.heap.objs.size + 4) (s.heap.objs.size + 2) (s.heap.objs.size + 3) s.heap.objs.size (s.heap.objs.size + 1) l1 l2 := ktu_apart _ _ _ hlt1 hlt2
  refine call_zip_2 hl1 hl2 fun h' hz hTI hTO hi1 hi2 hs5 hk => ?_
  have hmin : min xs.size ys.size = n := by rw [hx, hy, Nat.min_self]
  have W := WalksT.zip2 (prog := prog) (w := w) (A := A) hh _ _ _ _ _ _ _ D xs ys
  rw [hmin] at W
  refine ⟨_, _, _, n, xs, ys, _, _, news, J, rfl, hh, W, hsz, ⟨hz, hTI, ⟨_, _, hTO⟩, hi1, hi2, hl1.at fun o e => hk l1 o e, hl2.at fun o e => hk l2 o e⟩, ?_, F.keeps hk, N.grown hk, ?_, ?_, ?_, h0, step h', fin h'⟩
  · intro b hb
    have hb' : b = s.heap.objs.size + 4 ∨ b = s.heap.objs.size + 2 ∨ b = s.heap.objs.size + 3 ∨ b = s.heap.objs.size ∨ b = s.heap.objs.size + 1 ∨ b = l1 ∨ b = l2 := by simpa using hb
    have g : ∀ k : Nat, k < 5 → @LT.lt Nat _ (s.heap.objs.size + k) (s.heap.objs.size + 5) := fun k hk => Nat.add_lt_add_left hk _
    rw [hs5]
    rcases hb' with rfl | rfl | rfl | rfl | rfl | rfl | rfl
    · exact g 4 (by decide)
    · exact g 2 (by decide)
    · exact g 3 (by decide)
    · exact g 0 (by decide)
    · exact g 1 (by decide)
    · exact Nat.lt_add_right 5 hlt1
    · exact Nat.lt_add_right 5 hlt2
  · intro hI'
    have hb' : L = s.heap.objs.size + 4 ∨ L = s.heap.objs.size + 2 ∨ L = s.heap.objs.size + 3 ∨ L = s.heap.objs.size ∨ L = s.heap.objs.size + 1 ∨ L = l1 ∨ L = l2 := by simpa using hI'
    rcases hb' with e | e | e | e | e | e | e
    · exact ktu_ne 4 hLs e
    · exact ktu_ne 2 hLs e
    · exact ktu_ne 3 hLs e
    · exact Nat.ne_of_lt hLs e
    · exact ktu_ne 1 hLs e
    · exact hax1.2.1 e.symm
    · exact hax2.2.1 e.symm
  · intro b hb
    have hb' : b = s.heap.objs.size + 4 ∨ b = s.heap.objs.size + 3 ∨ b = s.heap.objs.size ∨ b = s.heap.objs.size + 1 := by simpa using hb
    rcases hb' with rfl | rfl | rfl | rfl
    · exact ktu_new F (Nat.le_add_right _ _)
    · exact ktu_new F (Nat.le_add_right _ _)
    · exact ktu_new F (Nat.le_refl _)
    · exact ktu_new F (Nat.le_add_right _ _)
  · intro p hp hI'
    have hb' : p.1 = s.heap.objs.size + 4 ∨ p.1 = s.heap.objs.size + 3 ∨ p.1 = s.heap.objs.size ∨ p.1 = s.heap.objs.size + 1 := by simpa using hI'
    have hlp := Heap.lt_size (N p hp).1
    rcases hb' with e | e | e | e
    · exact ktu_ne 4 hlp e
    · exact ktu_ne 3 hlp e
    · exact Nat.ne_of_lt hlp e
    · exact ktu_ne 1 hlp e
end
end Mine
end
section
open PySem PySem.W PyProof.Rows PySem.Calls PyProof.Rows.LCg
set_option maxHeartbeats 4000000
set_option maxRecDepth 100000
namespace Mine
section
variable {prog : Program} {w : World} {A : Around} {E : Value → Shared → Prop} {s : Shared} {h₀ : Heap} {L : Addr} {m : Str → Option Value} {env : Env} {K : Type} [DecidableEq K] {knd : KeyKind prog w K}
def StepD (prog : Program) (w : World) (A : Around) (h₀ : Heap) (L : Addr) (m : Str → Option Value) (env : Env) (kx vx : Expr) (x : Str) (scope : Scope) (cl : List (Str × Addr)) {K : Type} [DecidableEq K] (knd : KeyKind prog w K) (n : Nat) (P : Nat → Value → Prop) (news : List (Addr × Obj)) (J : Nat → List (K × Value) → Prop) (s₂ : Shared) : Prop :=
  ∀ i kvs v, i < n → J i kvs → P i v → ∀ own D oD C oC m₂ h tk (E' : Value → Shared → Prop), NsObj oC m₂ → m₂ x = some v → Fr h₀ L h m → News h₀ L h ((C, oC) :: (D, oD) :: (news ++ own)) →
    wpAny (model prog w) A (eval kx (compEnvC scope cl C env)) (fun kv s₃ => wpAny (model prog w) A (eval vx (compEnvC scope cl C env)) (fun vv s₄ =>
      ∃ h' tk' key, s₄ = { s₂ with heap := h', toks := tk' } ∧ Fr h₀ L h' m ∧ News h₀ L h' ((C, oC) :: (D, oD) :: (news ++ own)) ∧ knd.is key kv = true ∧ kvs.length ≤ sizeLine ∧ J (i + 1) (stored kvs key vv)) E' s₃) E' { s₂ with heap := h, toks := tk }
theorem block_D {kx vx iter : Expr} {x : Str} {px : Pos} {scope : Scope} {cl : List (Str × Addr)} {pos : Pos} {s₂ : Shared} {I : Addr} {fp wr : List Addr} {n : Nat} {P : Nat → Value → Prop} {St : Nat → Heap → Prop} {news : List (Addr × Obj)}
    {J : Nat → List (K × Value) → Prop} {RR : Value → Addr → Result → Shared → Prop}
    (W : Walks prog w A I fp wr n P St) (hbig : h₀.NoLimit)
    (hcell : ∀ y ∈ scope.names, y.2 ≠ .cell) (hkind : scope.kind = .function) (hx : scope.names.lookup x = some .local) (hst : St 0 s₂.heap) (hfp : ∀ b ∈ fp, b < s₂.heap.objs.size)
    (F : Fr h₀ L s₂.heap m) (N : News h₀ L s₂.heap news) (hLf : L ∉ fp) (hwr₀ : ∀ b ∈ wr, h₀.get? b = none) (off : ∀ p ∈ news, p.1 ∉ wr) (h0 : J 0 [])
    (step : StepD prog w A h₀ L m env kx vx x scope cl knd n P news J s₂)
    (hRR : ∀ D C h tk m' kvs, Fr h₀ L h m → News h₀ L h news → h.DictOf knd D kvs → (D == sysModules) = false → h.Ns C m' → h₀.get? C = none → C ≠ L → D ≠ C → (∀ p ∈ news, p.1 ≠ C) → J n kvs → RR (.ref D) C (.ok .next) { s₂ with heap := h, toks := tk }) :
    wpAny (model prog w) A newDict (fun acc s₃ => wpAny (model prog w) A (newFunctionEnv scope env.globals cl [] env.qual none .none (some env)) (fun cenv s₄ =>
      codeAny (model prog w) A (.compStart (.DictComp kx vx [⟨.Name x px, iter, [], 0⟩] scope pos) 0 (.ref I) acc { cenv with scope := relabel scope env }) (RR acc cenv.locals) s₄) E s₃) E s₂ := by
  have hlo := F.notModules (modules_low hbig)
  refine wpAny_newObj_type (wpAny_newFunctionEnv hcell (by intro y hy; simp at hy) (fun h₁ hns₁ hsb₁ => ?_) hkind)
  dsimp only at hns₁ hsb₁ ⊢
  have hnew : (s₂.heap.push { cls := .type "dict", dict := none, data := .dict #[] }).DictOf knd s₂.heap.objs.size [] := Heap.DictOf.new s₂.heap
  generalize hH2 : s₂.heap.push { cls := .type "dict", dict := none, data := .dict #[] } = H2 at hns₁ hsb₁ hnew ⊢
  have hC : H2.objs.size = s₂.heap.objs.size + 1 := by rw [← hH2, Heap.size_push]
  have hDC : s₂.heap.objs.size ≠ H2.objs.size := by rw [hC]; exact Nat.ne_of_lt (Nat.lt_succ_self _)
  have below : ∀ b, b < s₂.heap.objs.size → b ≠ H2.objs.size ∧ b ≠ s₂.heap.objs.size := fun b hb => ⟨by rw [hC]; exact Nat.ne_of_lt (Nat.lt_succ_of_lt hb), Nat.ne_of_lt hb⟩
  have hDf : s₂.heap.objs.size ∉ fp := fun hm => Nat.lt_irrefl _ (hfp _ hm)
  have hCf : H2.objs.size ∉ fp := fun hm => by have := hfp _ hm; rw [hC] at this; exact Nat.lt_irrefl _ (Nat.lt_of_succ_lt this)
  have hDw : s₂.heap.objs.size ∉ wr := fun hm => hDf (W.sub _ hm)
  have hCw : H2.objs.size ∉ wr := fun hm => hCf (W.sub _ hm)
  have hLw : L ∉ wr := fun hm => hLf (W.sub _ hm)
  have old : ∀ b o, s₂.heap.get? b = some o → h₁.get? b = some o := fun b o e => hsb₁.extBut b o (below b (Heap.lt_size e)).1 (Heap.get?_push_of_some _ (hH2 ▸ Heap.get?_push_of_some _ e))
  have hacc : h₁.DictOf knd s₂.heap.objs.size [] := hnew.at fun o e => hsb₁.extBut _ _ hDC (Heap.get?_push_of_some _ e)
  have hst₁ : St 0 h₁ := W.frame _ _ _ hst fun b _ o e => old b o e
  have fresh₀ : ∀ a, s₂.heap.objs.size ≤ a → h₀.get? a = none := fun a ha => by
    cases e : h₀.get? a with
    | none => rfl
    | some o' => exact absurd (Heap.lt_size (F.keep a o' e)) (Nat.not_lt.mpr ha)
  have hD₀ : h₀.get? s₂.heap.objs.size = none := fresh₀ _ (Nat.le_refl _)
  have hC₀ : h₀.get? H2.objs.size = none := fresh₀ _ (by rw [hC]; exact Nat.le_succ _)
  have hLlt : L < s₂.heap.objs.size := F.ns.lt
  have hDL : s₂.heap.objs.size ≠ L := Ne.symm (below L hLlt).2
  have hCL : H2.objs.size ≠ L := Ne.symm (below L hLlt).1
  have offD : ∀ p ∈ news, p.1 ≠ s₂.heap.objs.size := fun p hp => (below _ (Heap.lt_size (N p hp).1)).2
  have offC : ∀ p ∈ news, p.1 ≠ H2.objs.size := fun p hp => (below _ (Heap.lt_size (N p hp).1)).1
  have loop : ∀ s₃ : Shared, s₃ = { s₂ with heap := h₁, toks := s₂.toks + ([] : List (Str × Value)).length } →
      codeAny (model prog w) A (.compLoop (.DictComp kx vx [⟨.Name x px, iter, [], 0⟩] scope pos) 0 (.ref I) (.ref s₂.heap.objs.size) (compEnvC scope cl H2.objs.size env))
        (RR (.ref s₂.heap.objs.size) H2.objs.size) s₃ := by
    rintro s₃ rfl
    refine codeAny_compLoop_testsD
      (fun k s' => ∃ h' tk i m' kvs, s' = { s₂ with heap := h', toks := tk } ∧ i ≤ n ∧ k = n + 1 - i ∧ St i h' ∧ Fr h₀ L h' m ∧ h'.Ns H2.objs.size m' ∧ News h₀ L h' news ∧ h'.DictOf knd s₂.heap.objs.size kvs ∧ J i kvs) ?_ (n + 1)
      ⟨h₁, _, 0, _, [], rfl, Nat.zero_le _, rfl, hst₁, F.keeps old, hns₁, fun p hp => ⟨old _ _ (N p hp).1, (N p hp).2⟩, hacc, h0⟩
    rintro k s' ⟨h', tk, i, m', kvs, rfl, hi, rfl, hst', F', hn', N', hd', hJ⟩
    by_cases hlt : i < n
    · refine W.item i _ _ _ hlt hst' fun v h₂ tk₂ hPv hst₂ hk₂ => ?_
      refine wpAny_assign_Name (wpAny_storeName_local (lookup_relabel_local hx) (hn'.at' fun o e => hk₂ _ o hCw e) (fun h₃ hn₃ hs₃ => ?_) (by simp [compEnvC, relabel, hkind]))
      refine wpAny_tests_nil ?_
      simp only [if_true]
      have hst₃ : St (i + 1) h₃ := W.frame _ _ _ hst₂ fun b hb o e => hs₃.extBut b o (fun q => hCf (by have q' : b = H2.objs.size := q; rw [← q']; exact hb)) e
      obtain ⟨oC, heC, hoC⟩ := ns_obj hn₃
      have F₃ : Fr h₀ L h₃ m := (fr_wr F' hk₂ hLw hwr₀).change hs₃ hCL hC₀
      have N₂ : News h₀ L h₂ news := news_wr N' hk₂ off
      have hd₃ : h₃.DictOf knd s₂.heap.objs.size kvs := hd'.at fun o e => hs₃.extBut _ _ hDC (hk₂ _ o hDw e)
      obtain ⟨oD, heD, hoD⟩ := Heap.dictOf_iff.mp hd₃
      have Nown : News h₀ L h₃ (ownOf h₀ fp h₃) := news_ownOf hLf
      have N₃ : News h₀ L h₃ ((H2.objs.size, oC) :: (s₂.heap.objs.size, oD) :: (news ++ ownOf h₀ fp h₃)) := fun p hp => by
        rcases List.mem_cons.mp hp with rfl | hp
        · exact ⟨heC, hCL, hC₀⟩
        · rcases List.mem_cons.mp hp with rfl | hp
          · exact ⟨heD, hDL, hD₀⟩
          · rcases List.mem_append.mp hp with hp | hp
            · have q := N₂ p hp
              exact ⟨hs₃.extBut _ _ (offC p hp) q.1, q.2⟩
            · exact Nown p hp
      refine wpAny_mono (step i kvs v hlt hJ hPv (ownOf h₀ fp h₃) s₂.heap.objs.size oD H2.objs.size oC _ h₃ _ _ hoC (by simp) F₃ N₃) (fun kv s₄ h₄ => wpAny_mono h₄ (fun vv s₅ h₅ => ?_) fun _ _ e => e) fun _ _ e => e
      obtain ⟨h₅, tk₅, key, rfl, F₅, N₅, hkey, hsz, hJ₅⟩ := h₅
      have zC := (N₅ (H2.objs.size, oC) (.head _)).1
      have zD := (N₅ (s₂.heap.objs.size, oD) (.tail _ (.head _))).1
      have hst₅ : St (i + 1) h₅ := W.frame _ _ _ hst₃ fun b hb o e => by
        cases hn : h₀.get? b with
        | some o₀ =>
          have : o₀ = o := by have q := F₃.keep b o₀ hn; rw [e] at q; exact (Option.some.inj q).symm
          exact this ▸ F₅.keep b o₀ hn
        | none => exact (N₅ _ (.tail _ (.tail _ (List.mem_append_right _ (mem_ownOf hb hn e))))).1
      refine wpAny_dictSet_pairs (hsz := hsz) hkey (Heap.dictOf_iff.mpr ⟨oD, zD, hoD⟩) fun h₆ hd₆ hs₆ => ?_
      refine ⟨n + 1 - (i + 1), by omega, h₆, _, i + 1, _, stored kvs key vv, rfl, hlt, rfl, W.frame _ _ _ hst₅ fun b hb o e => hs₆.extBut b o (fun q => hDf (q ▸ hb)) e, F₅.change hs₆ hDL hD₀, (hoC.ns zC).sameBut hs₆ (Ne.symm hDC), fun p hp => ?_, hd₆, hJ₅⟩
      have q := N₅ p (.tail _ (.tail _ (List.mem_append_left _ hp)))
      exact ⟨hs₆.extBut _ _ (offD p hp) q.1, q.2⟩
    · obtain rfl : i = n := Nat.le_antisymm hi (Nat.not_lt.mp hlt)
      refine W.done _ _ _ hst' fun h₂ tk₂ hk₂ => ?_
      exact hRR _ _ h₂ tk₂ _ kvs (fr_wr F' hk₂ hLw hwr₀) (news_wr N' hk₂ off) (hd'.at fun o e => hk₂ _ o hDw e) hlo (hn'.at' fun o e => hk₂ _ o hCw e) hC₀ hCL hDC offC hJ
  exact codeAny_compStart_dict (loop _ rfl) (W.self 0 _ _ _ hst₁ (loop _ rfl))
/-- {kx: vx for x in range(n)} -/
def SrcD (prog : Program) (w : World) (A : Around) (h₀ : Heap) (L : Addr) (m : Str → Option Value) (env : Env) (kx vx : Expr) (x : Str) (scope : Scope) (cl : List (Str × Addr)) {K : Type} [DecidableEq K] (knd : KeyKind prog w K) (Q : Value → Shared → Prop) (xv : Value) (s₁ : Shared) : Prop :=
  ∃ (r : Addr) (t u v : Tok) (n : Nat) (news : List (Addr × Obj)) (J : Nat → List (K × Value) → Prop), xv = .ref r ∧ A.handled = none ∧ IsRange s₁.heap r 0 (n : Int) 1 t u v ∧ Builtin.Range.small 0 (n : Int) 1 = true ∧ Builtin.Range.rangeSize 0 (n : Int) 1 = (n : Int) ∧
    Fr h₀ L s₁.heap m ∧ News h₀ L s₁.heap news ∧ h₀.NoLimit ∧ J 0 [] ∧ (∀ g, StepD prog w A h₀ L m env kx vx x scope cl knd n (fun i v => ∃ t, v = .int (i : Int) t) news J { s₁ with heap := g }) ∧
    ∀ D h tk kvs, Fr h₀ L h m → News h₀ L h news → h.DictOf knd D kvs → (D == sysModules) = false → J n kvs → Q (.ref D) { s₁ with heap := h, toks := tk }
theorem DictComp_D {kx vx iter : Expr} {x : Str} {px : Pos} {scope : Scope} {cl : List (Str × Addr)} {pos : Pos} {Q : Value → Shared → Prop} (knd : KeyKind prog w K)
    (hclos : closureFor scope env = pure cl) (hcell : ∀ y ∈ scope.names, y.2 ≠ .cell) (hkind : scope.kind = .function)
    (hnames : ∀ y ∈ scope.names, y.2 = .local → scope.names.lookup y.1 = some .local) (hx : scope.names.lookup x = some .local)
    (h : wpAny (model prog w) A (eval iter env) (SrcD prog w A h₀ L m env kx vx x scope cl knd Q) E s)
    (hs : ∀ x, foldedSetIterable iter env x = pure x := by intro _; rfl) :
    wpAny (model prog w) A (eval (.DictComp kx vx [⟨.Name x px, iter, [], 0⟩] scope pos) env) Q E s := by
  rw [arm_eval_DictComp]
  refine wpAny_comprehension_free (use := none) rfl hs hclos hkind hnames (wpAny_mono h (fun xv s₁ h₁ => ?_) fun _ _ e => e)
  obtain ⟨r, t, u, v, n, news, J, rfl, hh, hr, hsm, hn, F, N, hbig, h0, step, fin⟩ := h₁
  refine wpAny_pyIter_range hr hsm ?_
  have up : ∀ b o, s₁.heap.get? b = some o → (s₁.heap.push { cls := .type "range_iterator", data := .fields #[rawInt 0, rawInt (Builtin.Range.rangeSize 0 (n : Int) 1), rawInt 1] }).get? b = some o := fun b o e => Heap.get?_push_of_some _ e
  have W := range_walks (prog := prog) (w := w) (A := A) (I := s₁.heap.objs.size) hh 0 n
  refine block_D (J := J) (knd := knd) W hbig hcell hkind hx (by show IsRangeIter _ _ _ _ _; rw [hn]; simpa using Heap.get?_push_size _ rfl) (fun b hb => ?_) (F.keeps up) (N.grown up) (fun hI => ?_) (fun b hb => ?_) (fun p hp hI => ?_) h0 ?_ ?_
  · rw [List.mem_singleton.mp hb]
    show s₁.heap.objs.size < (s₁.heap.push _).objs.size
    rw [Heap.size_push]; exact Nat.lt_succ_self _
  · exact absurd F.ns.lt ((List.mem_singleton.mp hI) ▸ Nat.lt_irrefl _)
  · rw [List.mem_singleton.mp hb]; exact next_is_new F
  · exact absurd (Heap.lt_size (N p hp).1) ((List.mem_singleton.mp hI) ▸ Nat.lt_irrefl _)
  · intro i kvs v hi hJ hP
    obtain ⟨t, rfl⟩ := hP
    exact step _ i kvs _ hi hJ ⟨t, by rw [Int.zero_add]⟩
  · intro D C h' tk m' kvs F' N' hd hlo hn' hC₀ hCL hDC offC hJ
    refine ⟨m', hn', fun h'' hs'' => fin D h'' tk kvs (F'.change hs'' hCL hC₀) (fun p hp => ⟨hs''.extBut _ _ (offC p hp) (N' p hp).1, (N' p hp).2⟩) (hd.extBut hs''.extBut hDC) hlo hJ⟩
end
end Mine
end
section
open PySem PySem.W PyProof.Rows PySem.Calls
namespace Mine
local macro_rules | `(tactic| walk_at "execs cons") => `(tactic| ((try dsimp only); (with_reducible refine wpAny_execs_cons ?_); try dsimp only))
local macro_rules | `(tactic| walk_at "m_step") => `(tactic| first | (k_unfold; (try dsimp only)) | walk1 | (dsimp only; walk1))
section
open PySem PySem.W PyProof.Rows PySem.Calls
local macro_rules | `(tactic| k_all) => `(tactic| first | assumption | (with_reducible rename AllLt _ _ => hlt; exact fun q hq => Nat.ne_of_lt (of_allLt hlt q hq)))
local macro_rules | `(tactic| walk_at "eval Name") => `(tactic| (k_dflt (first
  | (refine' nameX_L ?F ?v ?_ ?a ?b; (case b => rfl); (case F => k_asm); (case a => rfl); (case v => first | rfl | assumption); k_whole)
  | (refine' nameX_C ?N ?c ?m ?d ?_ ?a ?b; (case b => rfl); (case a => rfl); (case N => k_asm); (case c => rfl); (case m => k_mem); (case d => k_asm); k_whole)
  | (name_is_builtin; refine' nameX_B ?F ?X ?T ?e ?v ?n ?_ ?a ?b; (case b => rfl); (case a => rfl); (case F => k_asm); (case X => k_asm); (case T => k_asm); (case e => k_is); (case v => boot_fast); (case n => decide); k_whole)
  | (refine' nameX_K ?F ?X ?T ?e ?_ ?a ?b; (case b => rfl); (case a => rfl); (case F => k_asm); (case X => k_asm); (case T => k_asm); (case e => k_is); k_whole))))
section
open PySem PySem.W PyProof.Rows PySem.Calls
abbrev wordsO (X : Int → Str) (t0 t1 t2 t3 : Tok) (n : Nat) : Obj := listOf #[.str (X 0) t0, .str (X 1) t1, .str (X 2) t2, .str (X 3) t3] n
abbrev portsO (X : Int → Str) (t0 t1 t2 t3 : Tok) (n : Nat) : Obj := listOf #[.int (val (X 0)) t0, .int (val (X 1)) t1, .int (val (X 2)) t2, .int (val (X 3)) t3] n
abbrev widthsO (X : Int → Str) (t0 t1 t2 t3 : Tok) (n : Nat) : Obj := listOf #[.int ((X 0).length : Int) t0, .int ((X 1).length : Int) t1, .int ((X 2).length : Int) t2, .int ((X 3).length : Int) t3] n
/-- four words, told by a number -/
def Words (X : Int → Str) : Prop := ∀ k, ∃ j, Word j (X k)
theorem cell_list {h₀ h : Heap} {L c l : Addr} {o : Obj} {v : Option Value} {its : Array Value} {n : Nat} {news : List (Addr × Obj)} (N : News h₀ L h news) (h1 : (c, o) ∈ news) (d : o.data = .cell v) (h2 : (l, listOf its n) ∈ news) : @Ne Nat c l := fun e => by
  have e1 := (N _ h1).1
  have e2 := (N _ h2).1
  have e' : c = l := e
  subst e'
  have e3 : o = listOf its n := Option.some.inj (e1.symm.trans e2)
  rw [e3] at d
  cases d
section
variable {prog : Program} {w : World} {A : Around} {s : Shared} {Q E : Value → Shared → Prop} {X : Int → Str} {k j b : Int} {t u : Tok}
theorem pow_words (hX : Words X) (h : Q (.int (10 ^ (X k).length) s.toks) { s with toks := s.toks + 1 }) : wpAny (model prog w) A (binaryOp .Pow (.int 10 t) (.int ((X k).length : Int) u)) Q E s :=
  pow_word (hX k).choose_spec h
theorem mul_words (hX : Words X) (h : Q (.int (val (X k) * b) s.toks) { s with toks := s.toks + 1 }) : wpAny (model prog w) A (binaryOp .Mult (.int (val (X k)) t) (.int b u)) Q E s :=
  mul_val (hX k).choose_spec h
theorem add_words (hX : Words X) (h : ∀ t' tk, Q (.str (X k ++ X j) t') { s with toks := tk }) : wpAny (model prog w) A (binaryOp .Add (.str (X k) t) (.str (X j) u)) Q E s :=
  add_word2 (hX k).choose_spec (hX j).choose_spec h
theorem signs_words (hX : Words X) : ¬ ((coll (X k ++ X j) (X j ++ X k) != sgn (val (X k) * (10 ^ (X j).length - 1)) (val (X j) * (10 ^ (X k).length - 1))) = true) :=
  signs_ne (hX k).choose_spec (hX j).choose_spec
end
section
variable {prog : Program} {w : World} {A : Around} {s : Shared} {Q E : Value → Shared → Prop} {h₀ : Heap} {L l : Addr} {news : List (Addr × Obj)} {u : Tok} {n : Nat} {i : Int} {value slice : Expr} {X : Int → Str} {t0 t1 t2 t3 : Tok}
theorem item_port (_ : Words X) (N : News h₀ L s.heap news) (hm : (l, portsO X t0 t1 t2 t3 n) ∈ news) (hi : i = 0 ∨ i = 1 ∨ i = 2 ∨ i = 3)
    (h : ∀ t, Q (.int (val (X i)) t) s) (hs : subscripted slice false (.ref l) (.int i u) = operate [.ref l, .int i u] (getItem (.ref l) (.int i u)) := by with_unfolding_all rfl) :
    wpAny (model prog w) A (subscriptTail value slice (.ref l) (.int i u)) Q E s := item_ints (fun k => val (X k)) N hm hi h hs
theorem item_width (_ : Words X) (N : News h₀ L s.heap news) (hm : (l, widthsO X t0 t1 t2 t3 n) ∈ news) (hi : i = 0 ∨ i = 1 ∨ i = 2 ∨ i = 3)
    (h : ∀ t, Q (.int ((X i).length : Int) t) s) (hs : subscripted slice false (.ref l) (.int i u) = operate [.ref l, .int i u] (getItem (.ref l) (.int i u)) := by with_unfolding_all rfl) :
    wpAny (model prog w) A (subscriptTail value slice (.ref l) (.int i u)) Q E s := item_ints (fun k => ((X k).length : Int)) N hm hi h hs
theorem item_word (_ : Words X) (N : News h₀ L s.heap news) (hm : (l, wordsO X t0 t1 t2 t3 n) ∈ news) (hi : i = 0 ∨ i = 1 ∨ i = 2 ∨ i = 3)
    (h : ∀ t, Q (.str (X i) t) s) (hs : subscripted slice false (.ref l) (.int i u) = operate [.ref l, .int i u] (getItem (.ref l) (.int i u)) := by with_unfolding_all rfl) :
    wpAny (model prog w) A (subscriptTail value slice (.ref l) (.int i u)) Q E s := item_texts X N hm hi h hs
end
/-- the names that the signs' loops store -/
def stoC : List Str := [Str.ofString "i", Str.ofString "j", Str.ofString "sign", Str.ofString "found"]
def stoJ : List Str := [Str.ofString "j", Str.ofString "sign", Str.ofString "found"]
theorem news_swap {h₀ h : Heap} {L : Addr} {a b c : Addr × Obj} {r : List (Addr × Obj)} (N : News h₀ L h (a :: b :: c :: r)) : News h₀ L h (b :: c :: a :: r) := fun p hp => N p (by
  simp only [List.mem_cons] at hp ⊢
  rcases hp with h | h | h | h
  · exact .inr (.inl h)
  · exact .inr (.inr (.inl h))
  · exact .inl h
  · exact .inr (.inr (.inr h)))
theorem stoJ_off {y : Str} (h : stoC.contains y = false) : stoJ.contains y = false := by
  have e : stoC.contains y = (y == Str.ofString "i" || stoJ.contains y) := List.contains_cons
  rw [e, Bool.or_eq_false_iff] at h
  exact h.2
local macro_rules | `(tactic| size_fits) => `(tactic| assumption)
local macro_rules | `(tactic| walk_at "callWith ref") => `(tactic| (k_dflt (refine' callWith_K ?k1 ?k2 ?_; (case k1 => k_asm); (case k2 => k_is); k_whole)))
local macro_rules | `(tactic| walk_at "call ref") => `(tactic| ((with_reducible show wpAny _ _ (call (Value.ref 105) _) _ _ _); k_dflt (refine sign_N (by k_asm) (by k_asm) (by k_asm) (by k_asm) (by k_room) ?_); intro t' h' tk' F' N'; (try dsimp only)))
local macro_rules | `(tactic| walk_at "call ref") => `(tactic| ((with_reducible show wpAny _ _ (call (Value.ref 72) _) _ _ _); k_dflt (refine strcoll_N (by k_asm) (by k_asm) (by k_asm) (by k_asm) (by k_room) ?_); intro t' h' tk' F' N'; (try dsimp only)))
local macro_rules | `(tactic| walk_at "subscriptTail Name Name ref int") => `(tactic| (k_dflt (first
  | (refine item_last (by k_asm) (by k_mem) (by assumption) (by assumption) ?_)
  | (refine item_port (by assumption) (by k_asm) (by k_mem) (by omega) fun t' => ?_)
  | (refine item_width (by assumption) (by k_asm) (by k_mem) (by omega) fun t' => ?_)
  | (refine item_word (by assumption) (by k_asm) (by k_mem) (by omega) fun t' => ?_)); (try dsimp only)))
local macro_rules | `(tactic| walk_at "binaryOp Pow int int") => `(tactic| (k_dflt (refine pow_words (by assumption) ?_)))
local macro_rules | `(tactic| walk_at "binaryOp Mult int int") => `(tactic| (k_dflt (refine mul_words (by assumption) ?_)))
local macro_rules | `(tactic| walk_at "binaryOp Add str str") => `(tactic| (k_dflt (refine add_words (by assumption) ?_); intro t' tk'))
local macro_rules | `(tactic| walk_at "ite") => `(tactic| (k_dflt (refine ite_neg (signs_words (by assumption)) ?_)))
set_option maxHeartbeats 8000000 in
set_option maxRecDepth 100000 in
theorem blkC {w : World} {s : Shared} {Q : Flow → Shared → Prop} {h₀ : Heap} {L fa : Addr} {p : Program} {loose : List Str} {mean : ExcName → Option Value} {mg mb : Str → Option Value} {m : Str → Option Value} {X : Int → Str}
    {lw P W : Addr} {nw np nW : Nat} {t0 t1 t2 t3 a0 a1 a2 a3 b0 b1 b2 b3 ty : Tok} {y : Str} {o1 o2 o3 o4 o5 o6 : Obj}
    (hX : Words X) (XX : (hd.heap_39 w.params).In h₀) (T : Top p loose mean mg mb h₀) (C : CodeHd h₀ 109 107) (h107 : @LT.lt Nat _ 107 L) (F : Fr h₀ L s.heap m) (hp : m (Str.ofString "ports") = some (.ref P)) (hw : m (Str.ofString "widths") = some (.ref W))
    (N : News h₀ L s.heap [(lw, wordsO X t0 t1 t2 t3 nw), (P, portsO X a0 a1 a2 a3 np), (W, widthsO X b0 b1 b2 b3 nW), (L + 1 + 1 + 1 + 1 + 1 + 1, o6), (L + 1 + 1 + 1 + 1 + 1, o5), (L + 1 + 1 + 1 + 1, o4), (L + 1 + 1 + 1, o3), (L + 1 + 1, o2), (L + 1, o1), (107, tabObj #[])])
    (d1 : o1.data = .cell (some (.ref lw))) (d2 : o2.data = .cell (some (.str y ty))) (d3 : o3.data = .cell none) (d4 : o4.data = .cell none) (d5 : o5.data = .cell none) (d6 : o6.data = .cell none)
    (k : ∀ h' tk' m' Ds nD o3' r0 r1 r2 r3 c00 c01 c02 c03 c10 c11 c12 c13 c20 c21 c22 c23 c30 c31 c32 c33 n0 n1 n2 n3, Fr h₀ L h' m' → m' (Str.ofString "ports") = some (.ref P) → m' (Str.ofString "widths") = some (.ref W) → o3'.data = .cell (some (.ref Ds)) →
      News h₀ L h' [(Ds, listOf #[.ref r0, .ref r1, .ref r2, .ref r3] nD), (r0, rowOf X 0 c00 c01 c02 c03 n0), (r1, rowOf X 1 c10 c11 c12 c13 n1), (r2, rowOf X 2 c20 c21 c22 c23 n2), (r3, rowOf X 3 c30 c31 c32 c33 n3), (lw, wordsO X t0 t1 t2 t3 nw), (P, portsO X a0 a1 a2 a3 np), (W, widthsO X b0 b1 b2 b3 nW),
        (L + 1 + 1 + 1 + 1 + 1 + 1, o6), (L + 1 + 1 + 1 + 1 + 1, o5), (L + 1 + 1 + 1 + 1, o4), (L + 1 + 1 + 1, o3'), (L + 1 + 1, o2), (L + 1, o1), (107, tabObj #[])] →
      wpAny (model Challenge.rw_zd0002_01.row.prog w) (lawA L fa) (execs (lawBody.drop 7) (lawEnv L fa)) Q (fun _ _ => False) { s with heap := h', toks := tk' }) :
    wpAny (model Challenge.rw_zd0002_01.row.prog w) (lawA L fa) (execs (lawBody.drop 5) (lawEnv L fa)) Q (fun _ _ => False) s := by
  show wpAny _ _ (execs (_ :: _ :: lawBody.drop 7) (envOfC _ (Scope.mk _ _ _ _ _) _ _ _)) _ _ _
  revert XX; k_fill; intro XX
  have nlw := cell_list N (c := L + 1 + 1 + 1) (by k_mem) d3 (l := lw) (by k_mem)
  have nP := cell_list N (c := L + 1 + 1 + 1) (by k_mem) d3 (l := P) (by k_mem)
  have nW := cell_list N (c := L + 1 + 1 + 1) (by k_mem) d3 (l := W) (by k_mem)

  iterate 15 (walk_at "m_step")
  (rename IsRange _ _ _ _ _ _ _ _ => R')
  (with_reducible rename Fr _ _ _ _ => F1); (with_reducible rename News _ _ _ _ => N1)
  have F2 := F1
  rw [mix_self (stored := stoC) (m := m) (m' := m) (fun _ _ => rfl)] at F2
  refine rows_loop X stoC (by rfl) R' F2 N1 ?step ?done
  case step =>
    clear F1 F2 N1 R'
    intro i u rows n I it t h tk hi hl hD nDI hI hbI F3 N3
    (simp only [List.forall_mem_cons, List.not_mem_nil, false_implies, implies_true, and_true] at hbI)
    (simp only [List.cons_append, List.nil_append] at N3)
    have hsz : (List.toArray (refs rows)).size ≤ sizeLine := by
      rw [List.size_toArray, refs, List.length_map, sizeLine_eq]; omega
    iterate 21 (walk_at "m_step")
    (rename IsRange _ _ _ _ _ _ _ _ => R5)
    (with_reducible rename Fr _ _ _ _ => F5); (with_reducible rename News _ _ _ _ => N5)
    (simp only [List.push_toArray] at N5)
    have F6 := F5
    rw [mix_self (stored := stoJ) (m := fun y => if y = Str.ofString "i" then some (.int (i : Int) t) else mix stoC u m y) (m' := fun y => if y = Str.ofString "i" then some (.int (i : Int) t) else mix stoC u m y) (fun _ _ => rfl)] at F6
    refine cells_loop (fun j => sgW X (i : Int) j) stoJ (by rfl) R5 F6 N5 ?step2 ?done2
    case step2 =>
      clear F6 N5 F5 R5
      intro j u2 zs nz I2 it2 t2 h2 tk2 hj hz nI2 hb2 F7 N7
      have hszz : (List.toArray zs).size ≤ sizeLine := by
        rw [List.size_toArray, hz.length, List.length_map, List.length_range, sizeLine_eq]; omega
      (simp only [List.forall_mem_cons] at hb2)
      iterate 115 (walk_at "m_step")
      (with_reducible rename Fr _ _ _ _ => Fe); (with_reducible rename News _ _ _ _ => Ne)
      (simp only [List.push_toArray] at Ne)
      refine ⟨rfl, _, _, _, _, _, rfl, Fe, fun y hy => ?_, Ne⟩
      exact off_one hy (by decide) (off_one hy (by decide) (off_one hy (by decide) (mix_off hy)))
    case done2 =>
      intro u2 zs nz h2 tk2 hz F8 N8
      iterate 1 (walk_at "m_step")
      refine ⟨rfl, _, _, _, _, zs, nz, _, rfl, F8, fun y hy => ?_, ?_, ?_, hz, news_swap N8⟩
      · exact (mix_off (stoJ_off hy)).trans (off_one hy (by decide) (mix_off hy))
      · (rename _ < _ ∧ _ => ll; exact Nat.ne_of_gt ll.1)
      · (rename _ < _ ∧ _ => ll; exact Nat.ne_of_gt ll.2.1)
  case done =>
    intro u rows n h tk hl hok hD F9 N9
    obtain ⟨r0, r1, r2, r3, c00, c01, c02, c03, c10, c11, c12, c13, c20, c21, c22, c23, c30, c31, c32, c33, n0, n1, n2, n3, rfl⟩ := rows_lit hl hok
    refine k h tk (mix stoC u m) _ n _ r0 r1 r2 r3 c00 c01 c02 c03 c10 c11 c12 c13 c20 c21 c22 c23 c30 c31 c32 c33 n0 n1 n2 n3 F9 hp hw (by assumption) fun p hp => N9 p ?_
    revert p; kcf_all
end
section
open PySem PySem.W PyProof.Rows PySem.Calls
local macro_rules | `(tactic| k_ne) => `(tactic| first | assumption | exact Ne.symm (by assumption) | (refine neN ?_; (try dsimp only); omega))
local macro_rules | `(tactic| lcg_off) => `(tactic| (simp only [LCg.Off3, and_true]; assumption))
section
open PySem PySem.W PyProof.Rows PySem.Calls
theorem off_new {c : Nat} {tl new : List (Addr × Obj)} (h : ∀ p ∈ tl, @Ne Nat p.1 c) (h2 : ∀ p ∈ new, @Ne Nat p.1 c) : ∀ p ∈ tl ++ new, @Ne Nat p.1 c := fun p hp => (List.mem_append.mp hp).elim (h p) (h2 p)
local macro_rules | `(tactic| walk_at "callWith ref") => `(tactic| (k_dflt (refine' callWith_K ?k1 ?k2 ?_; (case k1 => k_asm); (case k2 => k_is); k_whole)))
set_option maxHeartbeats 8000000 in
set_option maxRecDepth 100000 in
theorem blkD {w : World} {s : Shared} {Q : Flow → Shared → Prop} {h₀ : Heap} {L fa : Addr} {p : Program} {loose : List Str} {mean : ExcName → Option Value} {mg mb : Str → Option Value} {m : Str → Option Value} {X : Int → Str}
    {lw : Addr} {nw : Nat} {t0 t1 t2 t3 ty : Tok} {y : Str} {o1 o2 o5 o6 : Obj} {tl : List (Addr × Obj)}
    (hX : Words X) (hy : Mark y) (XX : (hd.heap_39 w.params).In h₀) (T : Top p loose mean mg mb h₀) (C : CodeHd h₀ 109 107) (h107 : @LT.lt Nat _ 107 L) (F : Fr h₀ L s.heap m)
    (N : News h₀ L s.heap ((lw, wordsO X t0 t1 t2 t3 nw) :: (L + 1 + 1 + 1 + 1 + 1 + 1, o6) :: (L + 1 + 1 + 1 + 1 + 1, o5) :: (L + 1 + 1, o2) :: (L + 1, o1) :: tl))
    (d1 : o1.data = .cell (some (.ref lw))) (d2 : o2.data = .cell (some (.str y ty))) (d5 : o5.data = .cell none) (d6 : o6.data = .cell none)
    (ht5 : ∀ p ∈ tl, @Ne Nat p.1 (L + 1 + 1 + 1 + 1 + 1)) (ht6 : ∀ p ∈ tl, @Ne Nat p.1 (L + 1 + 1 + 1 + 1 + 1 + 1))
    (k : ∀ h' tk' M tM Or ys nO J js Td us new o5' o6', Fr h₀ L h' (fun z => if z = Str.ofString "top" then some (.int M tM) else if z = Str.ofString "orders" then some (.ref Or) else m z) →
      o5'.data = .cell (some (.ref Td)) → o6'.data = .cell (some (.ref J)) → Ords new ys (ordsOf 4) → NewOff new tl → StrsAre js ((ordsOf 4).map (catS X)) → IntsAre us ((ordsOf 4).map fun o => val (catS X o)) →
      M ∈ (ordsOf 4).map (fun o => val (catS X o)) → (∀ k ∈ (ordsOf 4).map (fun o => val (catS X o)), k ≤ M) → 
      News h₀ L h' ((Td, LCg.lst us) :: (J, LCg.lst js) :: (Or, listOf (List.toArray ys) nO) :: (lw, wordsO X t0 t1 t2 t3 nw) :: (L + 1 + 1 + 1 + 1 + 1 + 1, o6') :: (L + 1 + 1 + 1 + 1 + 1, o5') :: (L + 1 + 1, o2) :: (L + 1, o1) :: (tl ++ new)) →
      wpAny (model Challenge.rw_zd0002_01.row.prog w) (lawA L fa) (execs (lawBody.drop 11) (lawEnv L fa)) Q (fun _ _ => False) { s with heap := h', toks := tk' }) :
    wpAny (model Challenge.rw_zd0002_01.row.prog w) (lawA L fa) (execs (lawBody.drop 7) (lawEnv L fa)) Q (fun _ _ => False) s := by
  show wpAny _ _ (execs (_ :: _ :: _ :: _ :: lawBody.drop 11) (envOfC _ (Scope.mk _ _ _ _ _) _ _ _)) _ _ _
  revert XX; k_fill; intro XX
  have nlw5 := cell_list N (c := L + 1 + 1 + 1 + 1 + 1) (by k_mem) d5 (l := lw) (by k_mem)
  have nlw6 := cell_list N (c := L + 1 + 1 + 1 + 1 + 1 + 1) (by k_mem) d6 (l := lw) (by k_mem)
  iterate 9 (walk_at "m_step")
  k_dflt (refine orders_N (by k_asm) (by k_asm) (by k_asm) (by k_asm) (by k_room) (by rfl) ?_)
  intro Or ys new nO h1 tk1 F1 N1 ne1 off1 hO1
  (simp only [AllNe, and_true] at ne1); (simp only [NewOff, and_true] at off1)
  (simp only [List.cons_append, List.nil_append] at N1); (try dsimp only)
  have hO : Ords (tl ++ new) ys (ordsOf 4) := hO1.mono fun p hp => List.mem_append_right _ hp
  have hs5 := off_new ht5 off1.2.2.1
  have hs6 := off_new ht6 off1.2.1
  have hnt : NewOff new tl := off1.2.2.2.2.2
  obtain ⟨e1, e2, e3, e4, e5, -⟩ := ne1
  clear off1
  obtain ⟨tz, htz⟩ : ∃ tz, tz = tl ++ new := ⟨_, rfl⟩
  rw [← htz] at N1 hO hs5 hs6
  iterate 3 (walk_at "m_step")
  refine LCg.ListComp_U (F₀ := by k_asm) (by rfl) (by decide) (by rfl) (by decide) (by rfl) ?_
  iterate 1 (walk_at "m_step")
  refine LCg.CompSrc.ledger (by rfl) (by k_asm) (by k_asm) (by k_mem) ?sz ?_
  case sz => rw [List.size_toArray, hO.len, ords_len]; decide
  intro g'
  refine rest_fix _ _ (fun i zs => StrsAre zs (((ordsOf 4).take i).map (catS X))) (by lcg_src) .nil ?step ?fin
  case step =>
    intro i zs hi hJ v I oI C oC D m₂ h tk E' hv hC hx F N off ne
    obtain ⟨y, o, hy, ho, a, vs, n, rfl, ha, hvs⟩ := hO.at i (by simpa using hi)
    have e : v = .ref a := by
      have e : _ = some v := hv
      rw [List.getElem?_toArray, hy] at e; exact (Option.some.inj e).symm
    subst e
    have N2 : News _ _ h ((a, listOf (List.toArray vs) n) :: _) := fun p hp => (List.mem_cons.mp hp).elim (fun e => e ▸ N (a, listOf (List.toArray vs) n) (by simp [ha])) (N p)
    clear N
    iterate 6 (walk_at "m_step")
    refine LCg.ListComp_U (F₀ := by k_asm) (by rfl) (by decide) (by rfl) (by decide) (by rfl) ?_
    iterate 1 (walk_at "m_step")
    have hoo : o ∈ ordsOf 4 := List.mem_of_getElem? ho
    have hol : o.length = 4 := by obtain ⟨_, _, _, _, rfl⟩ := ords_shape o hoo; rfl
    refine LCg.CompSrc.ledger (by rfl) (by k_asm) (by k_asm) (by k_mem) ?sz2 ?_
    case sz2 => rw [List.size_toArray, hvs.length, hol]; decide
    intro g2
    refine rest_fix _ _ (fun q zs => StrsAre zs ((o.take q).map X)) (by lcg_src) .nil ?step2 ?fin2
    case step2 =>
      intro q zs hq hz v2 I2 oI2 C2 oC2 D2 m2 h2 tk2 E2 hv2 hC2 hx2 F2 N3 off2 ne2
      obtain ⟨k, t, rfl, hk⟩ := hvs.at q v2 (by simpa using hv2)
      iterate 3 (walk_at "m_step")
      refine item_word hX (by k_asm) (by k_mem) (ords_elts o hoo k (List.mem_of_getElem? hk)) fun t' => ?_
      refine ⟨⟨_, _, rfl, by assumption, by assumption⟩, ?_⟩
      rw [List.take_add_one, hk, List.map_append]
      exact Srt.snoc hz
    case fin2 =>
      intro zs hz
      rw [List.take_of_length_le (by rw [List.size_toArray, hvs.length]; exact Nat.le_refl _)] at hz
      unfold LCg.FinE
      intro D3 h3 tk3 F3 N3 o3
      (try dsimp only)
      iterate 1 (walk_at "m_step")
      refine join_words hX hoo (N3.get (.head _)) hz fun t' k' => ?_
      refine ⟨⟨_, _, rfl, by assumption, fun p hp => N3 p ?_⟩, ?_⟩
      · revert p; kcf_all
      · rw [List.take_add_one, ho, List.map_append]
        exact Srt.snoc (by assumption)
  case fin =>
    intro zs hz
    unfold LCg.FinE
    intro D3 h3 tk3 F3 N3 o3
    (try dsimp only)
    (simp only [LCg.Off1] at o3)
    obtain ⟨p1, p2, p3, p4, p5, p6, -⟩ := o3
    iterate 3 (walk_at "m_step")
    rw [List.take_of_length_le (by rw [List.size_toArray, hO.len]; exact Nat.le_refl _)] at hz
    have hzl := hz.length
    rw [List.length_map, ords_len] at hzl
    refine LCg.ListComp_U (F₀ := by k_asm) (by rfl) (by decide) (by rfl) (by decide) (by rfl) ?_
    iterate 1 (walk_at "m_step")
    refine LCg.CompSrc.ledger (by rfl) (by k_asm) (by k_asm) (by k_mem) ?sz3 ?_
    case sz3 => rw [List.size_toArray, hzl]; decide
    intro g3
    refine rest_fix _ _ (fun i us => IntsAre us (((ordsOf 4).take i).map fun o => val (catS X o))) (by lcg_src) .nil ?step3 ?fin3
    case step3 =>
      intro i us hi hu v I oI C oC D m₂ h tk E' hv hC hx F N off ne
      obtain ⟨x, t, rfl, hxx⟩ := hz.item i v (by simpa using hv)
      rw [List.getElem?_map] at hxx
      obtain ⟨o, ho, rfl⟩ := Option.map_eq_some_iff.mp hxx
      have hoo : o ∈ ordsOf 4 := List.mem_of_getElem? ho
      iterate 10 (walk_at "m_step")
      refine port_N (by k_asm) (by k_asm) (by k_asm) (by k_asm) (by k_room) (cat_figs hX hoo) (by assumption) ?_
      intro t' h' tk' F' N'
      refine ⟨⟨_, _, rfl, F', N'⟩, ?_⟩
      rw [List.take_add_one, ho, List.map_append]
      exact ksk_snoc hu
    case fin3 =>
      intro us hu
      rw [List.take_of_length_le (by rw [List.size_toArray, hzl]; decide)] at hu
      unfold LCg.FinE
      intro D4 h4 tk4 F4 N4 o4
      (try dsimp only)
      (simp only [LCg.Off1] at o4)
      obtain ⟨q1, q2, q3, q4, q5, q6, q7, -⟩ := o4
      iterate 9 (walk_at "m_step")
      (with_reducible rename News _ _ _ _ => N5)
      refine max_list_N (vs := us) (by rfl) (by k_asm) N5 (N5.isList (by k_mem)) hu (by rw [List.length_map, ords_len]; decide) ?_
      intro h5 M t5 tk5 F6 N6 hM hmax
      (try dsimp only)
      iterate 1 (walk_at "m_step")
      (try dsimp only)
      (with_reducible rename Fr _ _ _ _ => F9); (with_reducible rename News _ _ _ _ => N9)
      exact k _ _ M _ Or ys nO D3 zs D4 us new _ _ F9 (by assumption) (by assumption) hO1 hnt hz hu hM hmax (htz ▸ N9)
end
section
open PySem PySem.W PyProof.Rows PySem.Calls
def stoE : List Str := [Str.ofString "port", Str.ofString "rises"]
theorem ord_elt {o : List Int} (ho : o ∈ ordsOf 4) {q : Nat} (hq : q < 4) : o.getD q 0 = 0 ∨ o.getD q 0 = 1 ∨ o.getD q 0 = 2 ∨ o.getD q 0 = 3 := by
  have hl : o.length = 4 := by obtain ⟨_, _, _, _, rfl⟩ := ords_shape o ho; rfl
  have e : o.getD q 0 = o[q] := by simp [hl, hq]
  rw [e]
  exact ords_elts o ho _ (List.getElem_mem _)
theorem eqs_ne {ns : List Int} {a M : Int} (h : ns = [] ↔ a = M) : ¬ ((decide (ns = []) != (a == M)) = true) := by
  by_cases e : a = M
  · rw [decide_eq_true (h.mpr e), e]; simp
  · rw [decide_eq_false (fun x => e (h.mp x))]; simp [e]
section
variable {prog : Program} {w : World} {A : Around} {s : Shared} {Q E : Value → Shared → Prop} {h₀ : Heap} {L a : Addr} {news : List (Addr × Obj)} {u : Tok} {n : Nat} {i : Int} {value slice : Expr} {vs : List Value} {o : List Int}
theorem item_ord (ho : o ∈ ordsOf 4) (hvs : IntsAre vs o) (q : Nat) (N : News h₀ L s.heap news) (hm : (a, listOf (List.toArray vs) n) ∈ news) (e : i = (q : Int)) (hq : q < 4) (h : ∀ t, Q (.int (o.getD q 0) t) s)
    (hs : subscripted slice false (.ref a) (.int i u) = operate [.ref a, .int i u] (getItem (.ref a) (.int i u)) := by with_unfolding_all rfl) : wpAny (model prog w) A (subscriptTail value slice (.ref a) (.int i u)) Q E s := by
  have hl : o.length = 4 := by obtain ⟨_, _, _, _, rfl⟩ := ords_shape o ho; rfl
  subst e
  refine item_anyK (N.isList hm) hvs (by omega) (by rw [hl]; omega) (by omega) (fun t => ?_) hs
  rw [Int.toNat_natCast]; exact h t
end
local macro_rules | `(tactic| walk_at "callWith ref") => `(tactic| (k_dflt (refine' callWith_K ?k1 ?k2 ?_; (case k1 => k_asm); (case k2 => k_is); k_whole)))
local macro_rules | `(tactic| walk_at "none") => `(tactic| skip)
set_option maxHeartbeats 8000000 in
set_option maxRecDepth 100000 in
theorem blkE {w : World} {s : Shared} {Q : Flow → Shared → Prop} {h₀ : Heap} {L fa : Addr} {p : Program} {loose : List Str} {mean : ExcName → Option Value} {mg mb : Str → Option Value} {m : Str → Option Value} {X : Int → Str}
    {Ds r0 r1 r2 r3 Or Td : Addr} {nD n0 n1 n2 n3 nO : Nat} {c00 c01 c02 c03 c10 c11 c12 c13 c20 c21 c22 c23 c30 c31 c32 c33 tM : Tok} {M : Int} {ys us : List Value} {o3 o4 o5 : Obj} {tl : List (Addr × Obj)}
    (hX : Words X) (XX : (hd.heap_39 w.params).In h₀) (T : Top p loose mean mg mb h₀) (C : CodeHd h₀ 109 107) (h107 : @LT.lt Nat _ 107 L) (F : Fr h₀ L s.heap m)
    (hor : m (Str.ofString "orders") = some (.ref Or)) (htop : m (Str.ofString "top") = some (.int M tM))
    (N : News h₀ L s.heap ((L + 1 + 1 + 1 + 1, o4) :: (L + 1 + 1 + 1, o3) :: (Ds, listOf #[.ref r0, .ref r1, .ref r2, .ref r3] nD) :: (r0, rowOf X 0 c00 c01 c02 c03 n0) :: (r1, rowOf X 1 c10 c11 c12 c13 n1) :: (r2, rowOf X 2 c20 c21 c22 c23 n2) :: (r3, rowOf X 3 c30 c31 c32 c33 n3) :: (Or, listOf (List.toArray ys) nO) :: (Td, LCg.lst us) :: (L + 1 + 1 + 1 + 1 + 1, o5) :: tl))
    (d3 : o3.data = .cell (some (.ref Ds))) (d4 : o4.data = .cell none) (d5 : o5.data = .cell (some (.ref Td))) (ht4 : ∀ p ∈ tl, @Ne Nat p.1 (L + 1 + 1 + 1 + 1))
    (hO : Ords tl ys (ordsOf 4)) (hu : IntsAre us ((ordsOf 4).map fun o => val (catS X o))) (hM : M ∈ (ordsOf 4).map (fun o => val (catS X o))) (hmax : ∀ k ∈ (ordsOf 4).map (fun o => val (catS X o)), k ≤ M)
    (k : ∀ h' tk' m' o4', Fr h₀ L h' m' → (∀ y, stoE.contains y = false → m' y = m y) →
      News h₀ L h' ((L + 1 + 1 + 1 + 1, o4') :: (L + 1 + 1 + 1, o3) :: (Ds, listOf #[.ref r0, .ref r1, .ref r2, .ref r3] nD) :: (r0, rowOf X 0 c00 c01 c02 c03 n0) :: (r1, rowOf X 1 c10 c11 c12 c13 n1) :: (r2, rowOf X 2 c20 c21 c22 c23 n2) :: (r3, rowOf X 3 c30 c31 c32 c33 n3) :: (Or, listOf (List.toArray ys) nO) :: (Td, LCg.lst us) :: (L + 1 + 1 + 1 + 1 + 1, o5) :: tl) →
      wpAny (model Challenge.rw_zd0002_01.row.prog w) (lawA L fa) (execs (lawBody.drop 12) (lawEnv L fa)) Q (fun _ _ => False) { s with heap := h', toks := tk' }) :
    wpAny (model Challenge.rw_zd0002_01.row.prog w) (lawA L fa) (execs (lawBody.drop 11) (lawEnv L fa)) Q (fun _ _ => False) s := by
  show wpAny _ _ (execs (_ :: lawBody.drop 12) (envOfC _ (Scope.mk _ _ _ _ _) _ _ _)) _ _ _
  revert XX; k_fill; intro XX
  have b1 := cell_list N (c := L + 1 + 1 + 1 + 1) (.head _) d4 (l := Ds) (by k_mem)
  have b2 := cell_list N (c := L + 1 + 1 + 1 + 1) (.head _) d4 (l := r0) (by k_mem)
  have b3 := cell_list N (c := L + 1 + 1 + 1 + 1) (.head _) d4 (l := r1) (by k_mem)
  have b4 := cell_list N (c := L + 1 + 1 + 1 + 1) (.head _) d4 (l := r2) (by k_mem)
  have b5 := cell_list N (c := L + 1 + 1 + 1 + 1) (.head _) d4 (l := r3) (by k_mem)
  have b6 := cell_list N (c := L + 1 + 1 + 1 + 1) (.head _) d4 (l := Or) (by k_mem)
  have b7 := cell_list N (c := L + 1 + 1 + 1 + 1) (.head _) d4 (l := Td) (by k_mem)
  iterate 1 (walk_at "m_step")
  refine For_turns F ?_
  iterate 8 (walk_at "m_step")
  refine zip_loop (c := L + 1 + 1 + 1 + 1) (oc₀ := o4) (xs := ys) (ys := us) (by rfl) (by k_asm) N (by k_mem) (by k_mem) (fun _ m' oc => (∃ v, oc.data = .cell v) ∧ ∀ y, stoE.contains y = false → m' y = m y) ⟨⟨_, d4⟩, fun _ _ => rfl⟩ ?len ?step ?fin
  case len => rw [hu.length, List.length_map, hO.len]
  case fin =>
    rintro m' oc ⟨-, hm⟩ h tk F' N'
    exact k _ _ _ _ F' hm N'
  case step =>
    rintro i x y m1 oc hx hy ⟨⟨v, hoc⟩, hm1⟩ TT h tk own hT hown F1 N1
    (simp only [List.cons_append] at N1 ⊢)
    have hO2 : Ords (tl ++ own) ys (ordsOf 4) := hO.mono fun p hp => List.mem_append_left _ hp
    have hz4 := off_new ht4 hown
    clear hO ht4 hown
    generalize tl ++ own = tz at *
    obtain ⟨y0, o, hy0, ho, a, vs, n, rfl, ha, hvs⟩ := hO2.at i (List.getElem?_eq_some_iff.mp hx).1
    obtain rfl : x = .ref a := by rw [hx] at hy0; exact Option.some.inj hy0
    have hoo : o ∈ ordsOf 4 := List.mem_of_getElem? ho
    have htop1 : m1 (Str.ofString "top") = some (.int M tM) := (hm1 _ (by decide)).trans htop
    obtain ⟨tp, rfl⟩ : ∃ t, y = .int (val (catS X o)) t := by
      obtain ⟨t, e⟩ := hu.int_at i y hy
      refine ⟨t, e.trans ?_⟩
      rw [List.getD_eq_getElem?_getD, List.getElem?_map, ho]; rfl
    iterate 9 (walk_at "m_step")
    refine LCt.Assign_ListComp_T (F₀ := by k_asm) (by rfl) (by with_unfolding_all rfl) (by with_unfolding_all rfl) (by decide) (by rfl) (by decide) (by rfl) (by rfl) (by rfl) ?_
    iterate 9 (walk_at "m_step")
    refine LCt.CompSrcT.range (n := 3) (by rfl) (by k_asm) (by k_asm) (by assumption) (by decide) (by rfl) (by rw [sizeLine_eq]; decide) ?_
    intro g'
    refine restT_fix _ _ (fun q ws => ∃ ns, IntsAre ws ns ∧ (ns = [] ↔ ∀ i, i < q → ¬ sgW X (o.getD i 0) (o.getD (i + 1) 0) < 0)) (by trivial) ⟨[], .nil, by simp⟩ ?step2 ?fin2
    case step2 =>
      rintro q ws hq ⟨ns, hns, hiff⟩ v I oI Cc oC D m₂ h2 tk2 E' ⟨tv, rfl⟩ hC hx2 F2 N2 off ne
      have N3 : News _ _ h2 ((a, listOf (List.toArray vs) n) :: _) := fun p hp => (List.mem_cons.mp hp).elim (fun e => e ▸ N2 (a, listOf (List.toArray vs) n) (by simp [ha])) (N2 p)
      iterate 10 (walk_at "m_step")
      refine item_ord hoo hvs q (by k_asm) (by k_mem) (by omega) (by omega) fun t' => ?_
      refine item_refs (by k_asm) (by k_mem) (ord_elt hoo (by omega)) ?_
      iterate 3 (walk_at "m_step")
      refine item_ord hoo hvs (q + 1) (by k_asm) (by k_mem) (by omega) (by omega) fun t' => ?_
      refine item_sign (X := X) (by k_asm) (by k_mem) (by k_mem) (by k_mem) (by k_mem) ⟨rfl, rfl, rfl, rfl⟩ ⟨rfl, rfl, rfl, rfl⟩ ⟨rfl, rfl, rfl, rfl⟩ ⟨rfl, rfl, rfl, rfl⟩ (ord_elt hoo (by omega)) (ord_elt hoo (by omega)) fun t' => ?_
      iterate 3 (walk_at "m_step")
      by_cases hlt : sgW X (o.getD q 0) (o.getD (q + 1) 0) < 0
      · rw [if_pos (decide_eq_true hlt)]
        iterate 1 (walk_at "m_step")
        refine ⟨⟨_, _, rfl, F2, N2⟩, _, ksk_snoc hns, ?_⟩
        exact ⟨fun e => absurd e (by simp), fun e => absurd hlt (e q (by omega))⟩
      · rw [if_neg (by simpa using hlt)]
        refine ⟨⟨_, _, rfl, F2, N2⟩, ns, hns, hiff.trans ⟨fun e i hi => ?_, fun e i hi => e i (by omega)⟩⟩
        rcases Nat.lt_or_eq_of_le (Nat.lt_succ_iff.mp hi) with h3 | rfl
        · exact e i h3
        · exact hlt
    case fin2 =>
      rintro ws ⟨ns, hns, hiff⟩
      unfold LCg.FinA
      intro D h3 tk3 F3 N3 o3
      rw [rises_law hX hoo hM hmax] at hiff
      (try dsimp only)
      iterate 15 (walk_at "m_step")
      refine ite_neg (eqs_ne hiff) ?_
      iterate 2 (walk_at "m_step")
      (try dsimp only)
      (with_reducible rename Fr _ _ _ _ => F9); (with_reducible rename News _ _ _ _ => N9)
      unfold Mine.TurnEnd
      refine ⟨rfl, _, _, _, _, rfl, F9, fun p hp => N9 p (.tail _ (.tail _ hp)), ⟨_, by assumption⟩, fun y hy => ?_⟩
      exact off_one hy (by decide) (off_one hy (by decide) (hm1 y hy))
end
section
open PySem PySem.W PyProof.Rows PySem.Calls
set_option maxHeartbeats 8000000 in
set_option maxRecDepth 100000 in
theorem blkF {w : World} {s : Shared} {Q : Flow → Shared → Prop} {h₀ : Heap} {L fa : Addr} {p : Program} {loose : List Str} {mean : ExcName → Option Value} {mg mb : Str → Option Value} {m : Str → Option Value} {X : Int → Str}
    {J Td : Addr} {js us : List Value} {o5 o6 : Obj} {tl : List (Addr × Obj)}
    (hX : Words X) (XX : (hd.heap_39 w.params).In h₀) (T : Top p loose mean mg mb h₀) (C : CodeHd h₀ 109 107) (h107 : @LT.lt Nat _ 107 L) (F : Fr h₀ L s.heap m)
    (N : News h₀ L s.heap ((L + 1 + 1 + 1 + 1 + 1 + 1, o6) :: (J, LCg.lst js) :: (L + 1 + 1 + 1 + 1 + 1, o5) :: (Td, LCg.lst us) :: (107, tabObj #[]) :: tl))
    (d5 : o5.data = .cell (some (.ref Td))) (d6 : o6.data = .cell (some (.ref J))) (ht : ∀ p ∈ tl, @Ne Nat p.1 107) (nJ : @Ne Nat J 107) (nT : @Ne Nat Td 107)
    (hj : StrsAre js ((ordsOf 4).map (catS X))) (hu : IntsAre us ((ordsOf 4).map fun o => val (catS X o)))
    (k : ∀ h' tk' m' xs, Fr h₀ L h' m' → (∀ y, y ≠ Str.ofString "places" → m' y = m y) →
      News h₀ L h' ((L + 1 + 1 + 1 + 1 + 1 + 1, o6) :: (J, LCg.lst js) :: (L + 1 + 1 + 1 + 1 + 1, o5) :: (Td, LCg.lst us) :: (107, tabObj xs) :: tl) →
      wpAny (model Challenge.rw_zd0002_01.row.prog w) (lawA L fa) (execs (lawBody.drop 14) (lawEnv L fa)) Q (fun _ _ => False) { s with heap := h', toks := tk' }) :
    wpAny (model Challenge.rw_zd0002_01.row.prog w) (lawA L fa) (execs (lawBody.drop 12) (lawEnv L fa)) Q (fun _ _ => False) s := by
  show wpAny _ _ (execs (_ :: _ :: lawBody.drop 14) (envOfC _ (Scope.mk _ _ _ _ _) _ _ _)) _ _ _
  revert XX; k_fill; intro XX
  have nR : @Ne Nat s.heap.objs.size 107 := Nat.ne_of_gt (Heap.lt_size (N (107, tabObj #[]) (by k_mem)).1)
  have hr0 := next_is_new F
  have hrL := Nat.ne_of_gt F.ns.lt
  iterate 13 (walk_at "m_step")
  (rename IsRange _ _ _ _ _ _ _ _ => R0)
  (with_reducible rename News _ _ _ _ => N1)
  have N2 := range_news hr0 hrL N1 R0
  clear N1
  iterate 4 (walk_at "m_step")
  (with_reducible rename News _ _ _ _ => N3)
  (with_reducible rename Fr _ _ _ _ => F3)
  show wpAny _ _ (call (.builtin "sorted") [.ref _] [(Str.ofString "key", .ref _)]) _ _ _
  refine sorted_range (n := 24) (kz := (ordsOf 4).map (catS X)) (by rfl) F3 N3 (N3.get (by k_mem)) (by decide) (by rfl) (by rw [List.length_map, ords_len]) (by decide) (by decide) ?turn ?fin
  case turn =>
    clear N3 F3
    intro i t key hkey h tk own F4 N4
    (simp only [List.cons_append] at N4 ⊢)
    generalize tl ++ own = tz at *
    obtain ⟨o, ho, rfl⟩ := Option.map_eq_some_iff.mp (List.getElem?_map .. ▸ hkey)
    have hi : i < 24 := by have := (List.getElem?_eq_some_iff.mp ho).1; rwa [ords_len] at this
    have hjl : js.length = 24 := by rw [hj.length, List.length_map, ords_len]
    obtain ⟨x, tx, ex, hx⟩ := hj.item i _ (List.getElem?_eq_getElem (by omega))
    obtain rfl : x = catS X o := by rw [hkey] at hx; exact (Option.some.inj hx).symm
    have hji : js[i]? = some (.str (catS X o) tx) := by rw [← ex]; exact List.getElem?_eq_getElem _
    refine wpAny_mono (enterL (R := fun v => ∃ t', v = .str (catS X o) t') F4 XX N4 T (by k_mem) (codeRec_news N4 (by k_mem) (by assumption) (by assumption)) (by k_room) (by exact rfl) (by exact locs rfl) ?_ (by exact rfl) (by exact rfl) (by exact rfl) (by decide)) (fun v s' hv => ?_) fun _ _ hf => hf
    case refine_2 =>
      obtain ⟨h', tk', rfl, F5, N5, t', rfl⟩ := hv
      exact ⟨h', tk', t', rfl, rfl, F5, N5⟩
    intro g L' h₁ F6 N6 X6 T6
    clear F4 N4
    iterate 7 (walk_at "m_step")
    refine item_N N6 (show (J, LCg.lst js) ∈ _ by k_mem) (by omega) (by omega) (v := .str (catS X o) tx) (by rw [Int.zero_add, Int.toNat_natCast, List.getElem?_toArray]; exact hji) ?_
    iterate 2 (walk_at "m_step")
    (with_reducible show wpAny _ _ (call (Value.ref 79) _) _ _ _)
    refine strxfrm_N F6 N6 X6 T6 ?_ ?_
    case refine_1 => k_room
    intro h' tk' F' N'
    (exact ⟨_, _, _, rfl, F', N', _, rfl⟩)
  case fin =>
    intro D h4 tk4 vs out c F4 N4 ne4 hvs hout
    obtain ⟨pz, hpz, hperm, hpair⟩ := out_places hvs (by rw [List.length_map, ords_len]) hout
    have hol : out.toList.length = 24 := by rw [hpz.length, hperm.length_eq, List.length_map, List.length_range]
    (simp only [AllNe] at ne4)
    obtain ⟨-, -, -, n1, n2, n3, n4, n5, -⟩ := ne4
    iterate 1 (walk_at "m_step")
    (with_reducible rename News _ _ _ _ => N5)
    have N6 : News h₀ L _ ((D, listOf out c) :: (L + 1 + 1 + 1 + 1 + 1 + 1, o6) :: (J, LCg.lst js) :: (L + 1 + 1 + 1 + 1 + 1, o5) :: (Td, LCg.lst us) :: (107, tabObj _) :: tl) := fun p hp => N5 p (by revert p; kcf_all)
    clear N5
    (try dsimp only)
    iterate 3 (walk_at "m_step")
    refine LCg.ListComp_U (F₀ := by k_asm) (by rfl) (by decide) (by rfl) (by decide) (by rfl) ?_
    iterate 1 (walk_at "m_step")
    refine LCg.CompSrc.ledger (by rfl) (by k_asm) (by k_asm) (by k_mem) ?sz ?_
    case sz => rw [← Array.length_toList, hol]; decide
    intro g'
    refine rest_fix _ _ (fun i zs => IntsAre zs ((pz.take i).map fun k => ((ordsOf 4).map fun o => val (catS X o)).getD k.toNat 0)) (by lcg_src) .nil ?step ?fin
    case step =>
      intro i zs hi hJ v I oI C oC D' m₂ h tk E' hv hC hx F N off ne
      have hv' : out.toList[i]? = some v := by rw [Array.getElem?_toList]; exact hv
      obtain ⟨n, t, rfl, hn⟩ := hpz.at i v hv'
      obtain ⟨q, hq, rfl⟩ := List.mem_map.mp (hperm.mem_iff.mp (List.mem_of_getElem? hn))
      have hq' := List.mem_range.mp hq
      iterate 3 (walk_at "m_step")
      refine item_anyK (N.isList (show (Td, LCg.lst us) ∈ _ by k_mem)) hu (by omega) (by rw [List.length_map, ords_len]; omega) (by omega) fun t => ?_
      refine ⟨⟨_, _, rfl, F, N⟩, ?_⟩
      rw [List.take_add_one, hn, List.map_append]
      exact ksk_snoc hJ
    case fin =>
      intro zs hz
      rw [List.take_of_length_le (by rw [← Array.length_toList, hpz.length]; exact Nat.le_refl _)] at hz
      unfold LCg.FinE
      intro D2 h2 tk2 F2 N2 o2
      (try dsimp only)
      (simp only [LCg.Off1] at o2)
      obtain ⟨p1, p2, p3, p4, p5, p6, -⟩ := o2
      iterate 6 (walk_at "m_step")
      refine sorted_N (by k_asm) N2 (N2.isList (show (Td, LCg.lst us) ∈ _ by k_mem)) hu (by rw [hu.length, List.length_map, ords_len]; decide) ?_
      intro h5 vs5 ns5 e5 F5 N5 hI5 hp5 hs5
      have hlaw : pz.map (fun k => ((ordsOf 4).map fun o => val (catS X o)).getD k.toNat 0) = ns5 := by
        have e := places_law (ks := (ordsOf 4).map (catS X)) (n := lenL (lN X) [0, 1, 2, 3]) (fun x hx => by obtain ⟨o, ho, rfl⟩ := List.mem_map.mp hx; exact (cat_figs hX ho).1) (fun x hx => by obtain ⟨o, ho, rfl⟩ := List.mem_map.mp hx; rw [cat_len, lenL_perm (ords_perm o ho)])
          (by rw [List.length_map, ords_len]; exact hperm) hpair (y := ns5) (by rw [List.map_map]; exact hp5) hs5
        rw [List.map_map] at e
        exact e
      (try dsimp only)
      iterate 2 (walk_at "m_step")
      refine ite_neg (by rw [decide_eq_true hlaw]; decide) ?_
      iterate 1 (walk_at "m_step")
      (try dsimp only)
      exact k _ _ _ _ F5 (fun y hy => if_neg hy) fun p hp => N5 p (.tail _ (.tail _ (.tail _ hp)))
end
section
open PySem PySem.W PyProof.Rows PySem.Calls
theorem stored_new {kvs : List (Int × Value)} {i : Nat} (hk : kvs.map (·.1) = (List.range i).map fun (j : Nat) => (j : Int)) (v : Value) : stored kvs (i : Int) v = kvs ++ [((i : Int), v)] := by
  unfold stored
  rw [if_neg]
  intro h
  obtain ⟨p, hp, e⟩ := List.any_eq_true.mp h
  have h1 : p.1 ∈ kvs.map (·.1) := List.mem_map.mpr ⟨p, hp, rfl⟩
  rw [hk] at h1
  obtain ⟨j, hj, e2⟩ := List.mem_map.mp h1
  have := List.mem_range.mp hj
  have e3 : p.1 = (i : Int) := by simpa using e
  omega
theorem figs_ints : ∀ {kvs : List (Int × Value)} {ns : List Int}, IntsAre (kvs.map (·.2)) ns → (∀ n ∈ ns, 0 < n) → Fl.figs kvs = ns ∧ (kvs.any fun p => Fl.isNone p.2) = false ∧ ∀ p ∈ kvs, Fl.Small p.2
  | [], ns, h, _ => by cases h; exact ⟨rfl, rfl, fun _ h => nomatch h⟩
  | (k, v) :: r, ns, h, hp => by
    cases h with
    | cons n t h =>
      obtain ⟨h1, h2, h3⟩ := figs_ints h fun q hq => hp q (.tail _ hq)
      have hn := hp n (.head _)
      have e : Fl.keepV (.int n t) = true := by simp [Fl.keepV]; omega
      refine ⟨?_, ?_, fun p hp => ?_⟩
      · rw [← h1]; simp [Fl.figs, e, Fl.valI]
      · rw [List.any_cons, h2]; rfl
      · rcases List.mem_cons.mp hp with rfl | hp
        · exact .inl ⟨_, _, rfl⟩
        · exact h3 p hp
theorem cat_pos {X : Int → Str} (hX : Words X) {o : List Int} (ho : o ∈ ordsOf 4) : 0 < val (catS X o) ∧ val (catS X o) < 10 ^ 40 := by
  obtain ⟨a, b, c, d, rfl⟩ := ords_shape o ho
  have hl := cat_len X [a, b, c, d]
  have e := lenL_cons (l := lN X) a [b, c, d]
  have e2 := lenL_cons (l := lN X) b [c, d]
  have e3 := lenL_cons (l := lN X) c [d]
  have e4 := lenL_cons (l := lN X) d []
  have e5 : lenL (lN X) [] = 0 := rfl
  have la := lN_le hX a
  have lb := lN_le hX b
  have lc := lN_le hX c
  have ld := lN_le hX d
  refine ⟨?_, val_lt (cat_figs hX ho).1 (by omega)⟩
  rw [cat_val]
  have h1 := Nat.mul_pos (pN_pos hX a) (pow_pos10 (lenL (lN X) [b, c, d]))
  have h2 : T (pN X) (lN X) [a, b, c, d] = pN X a * 10 ^ lenL (lN X) [b, c, d] + T (pN X) (lN X) [b, c, d] := rfl
  rw [h2]
  omega
/-- how many noughts stand ahead of a word -/
def nzv (X : Int → Str) (k : Int) : Int := ((X k).length : Int) - (dlen (val (X k)) : Int)
theorem final_law {X : Int → Str} (hX : Words X) {M z : Int} (hM : M ∈ (ordsOf 4).map fun o => val (catS X o)) (hmax : ∀ a ∈ (ordsOf 4).map fun o => val (catS X o), a ≤ M)
    (hz : z ∈ (List.range 4).map fun (q : Nat) => nzv X (q : Int)) (hmin : ∀ a ∈ (List.range 4).map fun (q : Nat) => nzv X (q : Int), z ≤ a) :
    widthOf M false = ((X 0).length : Int) + (X 1).length + (X 2).length + (X 3).length - z := by
  obtain ⟨o, ho, rfl⟩ := List.mem_map.mp hM
  rw [cat_val] at hmax ⊢
  refine last_law hX ⟨o, ho, rfl⟩ (fun o' ho' => ?_) ?_ fun k hk => ?_
  · have := hmax _ (List.mem_map.mpr ⟨o', ho', rfl⟩)
    rw [cat_val] at this
    omega
  · obtain ⟨q, hq, rfl⟩ := List.mem_map.mp hz
    have := List.mem_range.mp hq
    refine ⟨(q : Int), by omega, ?_⟩
    unfold nzv lN
    rw [val_pN]
  · have key : ∀ q : Nat, q < 4 → z ≤ (lN X (q : Int) : Int) - (dlen ((pN X (q : Int) : Nat) : Int) : Int) := fun q hq => by
      have := hmin _ (List.mem_map.mpr ⟨q, List.mem_range.mpr hq, rfl⟩)
      unfold nzv at this
      rw [val_pN] at this
      exact this
    rcases hk with rfl | rfl | rfl | rfl
    · exact key 0 (by decide)
    · exact key 1 (by decide)
    · exact key 2 (by decide)
    · exact key 3 (by decide)
end
section
open PySem PySem.W PyProof.Rows PySem.Calls
local macro_rules | `(tactic| walk_at "callWith ref") => `(tactic| (k_dflt (refine' callWith_K ?k1 ?k2 ?_; (case k1 => k_asm); (case k2 => k_is); k_whole)))
local macro_rules | `(tactic| walk_at "call builtin:len") => `(tactic| (k_dflt (first | (refine len_num' (by assumption) ?_) | (refine len_small (by omega) ?_))))
local macro_rules | `(tactic| walk_at "call type:str") => `(tactic| (k_dflt (refine str_num (by assumption) (by assumption) ?_); intro hd'))
set_option maxHeartbeats 8000000 in
set_option maxRecDepth 100000 in
theorem blkG {w : World} {s : Shared} {Q : Flow → Shared → Prop} {h₀ : Heap} {L fa : Addr} {p : Program} {loose : List Str} {mean : ExcName → Option Value} {mg mb : Str → Option Value} {m : Str → Option Value} {X : Int → Str}
    {lw P W Td : Addr} {nw np nW : Nat} {t0 t1 t2 t3 a0 a1 a2 a3 b0 b1 b2 b3 : Tok} {us : List Value} {o1 o5 : Obj} {xs : Array Value}
    (hX : Words X) (XX : (hd.heap_39 w.params).In h₀) (T : Top p loose mean mg mb h₀) (C : CodeHd h₀ 109 107) (h107 : @LT.lt Nat _ 107 L) (F : Fr h₀ L s.heap m)
    (hp : m (Str.ofString "ports") = some (.ref P)) (hw : m (Str.ofString "widths") = some (.ref W))
    (N : News h₀ L s.heap [(lw, wordsO X t0 t1 t2 t3 nw), (P, portsO X a0 a1 a2 a3 np), (W, widthsO X b0 b1 b2 b3 nW), (L + 1 + 1 + 1 + 1 + 1, o5), (Td, LCg.lst us), (L + 1, o1), (107, tabObj xs)])
    (d1 : o1.data = .cell (some (.ref lw))) (d5 : o5.data = .cell (some (.ref Td))) (hu : IntsAre us ((ordsOf 4).map fun o => val (catS X o)))
    (hQ : ∀ h' tk' m' news, Fr h₀ L h' m' → News h₀ L h' ((107, tabObj xs) :: news) → Q (.ret (.bool true)) { s with heap := h', toks := tk' }) :
    wpAny (model Challenge.rw_zd0002_01.row.prog w) (lawA L fa) (execs (lawBody.drop 14) (lawEnv L fa)) Q (fun _ _ => False) s := by
  show wpAny _ _ (execs (_ :: _) (envOfC _ (Scope.mk _ _ _ _ _) _ _ _)) _ _ _
  revert XX; k_fill; intro XX
  iterate 1 (walk_at "m_step")
  refine Assign_ListComp_Z (h₀ := h₀) (m := m) (by rfl) (by with_unfolding_all rfl) (by with_unfolding_all rfl) (by decide) (by rfl) (by decide) (by rfl) (by rfl) (by decide) (by rfl) (by rfl) ?_
  iterate 8 (walk_at "m_step")
  (with_reducible show wpAny _ _ (call (Value.type "zip") _) _ _ _)
  refine srcZ_zip (by rfl) F N (show (lw, wordsO X t0 t1 t2 t3 nw) ∈ _ by k_mem) (show (P, portsO X a0 a1 a2 a3 np) ∈ _ by k_mem) 4 (by rfl) (by rfl) (by rw [sizeLine_eq]; decide) (fun i zs => IntsAre zs ((List.range i).map fun (q : Nat) => nzv X (q : Int))) .nil ?step ?fin
  case step =>
    intro g D i zs vx vy hi hz hvx hvy own C oC m₂ h tk E' hC hx hx2 F2 N2
    obtain ⟨tx, rfl⟩ : ∃ t, vx = .str (X i) t := by
      match i, hi with
      | 0, _ => exact ⟨_, (Option.some.inj hvx).symm⟩
      | 1, _ => exact ⟨_, (Option.some.inj hvx).symm⟩
      | 2, _ => exact ⟨_, (Option.some.inj hvx).symm⟩
      | 3, _ => exact ⟨_, (Option.some.inj hvx).symm⟩
    obtain ⟨ty, rfl⟩ : ∃ t, vy = .int (val (X i)) t := by
      match i, hi with
      | 0, _ => exact ⟨_, (Option.some.inj hvy).symm⟩
      | 1, _ => exact ⟨_, (Option.some.inj hvy).symm⟩
      | 2, _ => exact ⟨_, (Option.some.inj hvy).symm⟩
      | 3, _ => exact ⟨_, (Option.some.inj hvy).symm⟩
    obtain ⟨jw, hwi⟩ := hX i
    have hl7 := hwi.2.2.1
    have hv0 := hwi.2.1
    have hv1 : val (X i) < 10 ^ 40 := val_lt hwi.1 (by omega)
    (simp only [List.cons_append, List.nil_append] at N2 ⊢)
    iterate 18 (walk_at "m_step")
    refine str_num hv0 hv1 fun hd' => ?_
    iterate 1 (walk_at "m_step")
    refine len_num' hd' ?_
    iterate 1 (walk_at "m_step")
    refine ⟨⟨_, _, rfl, F2, N2⟩, ?_⟩
    rw [List.range_succ, List.map_append]
    exact ksk_snoc hz
  case fin =>
    intro g zs hz
    unfold LCg.FinA
    intro D1 h1 tk1 F1 N1 o1
    (try dsimp only)
    iterate 7 (walk_at "m_step")
    refine DictComp_D (h₀ := h₀) (L := L) (m := fun z => if z = Str.ofString "noughts" then some (.ref D1) else m z) (intKind _ _) (by rfl) (by decide) (by rfl) (by decide) (by rfl) ?_
    iterate 7 (walk_at "m_step")
    (rename IsRange _ _ _ _ _ _ _ _ => R2)
    (with_reducible rename News _ _ _ _ => N2); (with_reducible rename Fr _ _ _ _ => F2)
    refine ⟨_, _, _, _, 24, _, fun i kvs => kvs.map (·.1) = (List.range i).map (fun (j : Nat) => (j : Int)) ∧ IntsAre (kvs.map (·.2)) (((ordsOf 4).map fun o => val (catS X o)).take i), rfl, rfl, R2, by decide, by rfl, F2, N2, T.nolimit, ⟨rfl, .nil⟩, ?step2, ?fin2⟩
    case step2 =>
      clear F2 N2 R2
      rintro g i kvs v hi ⟨hk, hvs⟩ ⟨t, rfl⟩ own D2 oD C oC m₂ h tk E' hC hx F3 N3
      (simp only [List.cons_append, List.nil_append] at N3 ⊢)
      iterate 4 (walk_at "m_step")
      refine item_anyK (N3.isList (show (Td, LCg.lst us) ∈ _ by k_mem)) hu (by omega) (by rw [List.length_map, ords_len]; omega) (by omega) fun t2 => ?_
      have hkl : kvs.length = i := by have := congrArg List.length hk; simpa using this
      refine ⟨_, _, (i : Int), rfl, F3, N3, by simp [intKind, Value.isInt], by rw [hkl, sizeLine_eq]; omega, ?_⟩
      rw [stored_new hk]
      refine ⟨by rw [List.map_append, hk, List.range_succ, List.map_append]; rfl, ?_⟩
      have hlt : i < ((ordsOf 4).map fun o => val (catS X o)).length := by rw [List.length_map, ords_len]; exact hi
      rw [List.map_append, List.take_add_one, List.getElem?_eq_getElem hlt, Int.toNat_natCast, List.getD_eq_getElem?_getD, List.getElem?_eq_getElem hlt]
      exact ksk_snoc hvs
    case fin2 =>
      rintro D2 h2 tk2 kvs F3 N3 hd hlo ⟨hk, hvs⟩
      rw [List.take_of_length_le (by rw [List.length_map, ords_len]; exact Nat.le_refl _)] at hvs
      have hks : ∀ a ∈ (ordsOf 4).map fun o => val (catS X o), 0 < a ∧ a < 10 ^ 40 := fun a ha => by
        obtain ⟨o, ho, rfl⟩ := List.mem_map.mp ha
        exact cat_pos hX ho
      obtain ⟨e1, e2, e3⟩ := figs_ints hvs fun a ha => (hks a ha).1
      (try dsimp only)
      iterate 2 (walk_at "m_step")
      refine width_N (o := o5) F3 N3 XX T (by k_room) (by rfl) hlo hd e3 (by rw [e1]; intro h0; have h1 := congrArg List.length h0; rw [List.length_map, ords_len] at h1; exact absurd h1 (by decide)) (by rw [e1]; exact hks) ?_
      intro M t4 h4 tk4 hM hmax F4 N4
      rw [e1] at hM hmax
      rw [e2]
      iterate 6 (walk_at "m_step")
      iterate 1 (walk_at "m_step")
      have hW : IntsAre [.int ((X 0).length : Int) b0, .int ((X 1).length : Int) b1, .int ((X 2).length : Int) b2, .int ((X 3).length : Int) b3] [((X 0).length : Int), ((X 1).length : Int), ((X 2).length : Int), ((X 3).length : Int)] := .cons _ _ (.cons _ _ (.cons _ _ (.cons _ _ .nil)))
      have hlW := N4.isList (show (W, widthsO X b0 b1 b2 b3 nW) ∈ _ by k_mem)
      iterate 7 (walk_at "m_step")
      (with_reducible rename News _ _ _ _ => N5); (with_reducible rename Fr _ _ _ _ => F5)
      refine min_list_N (by rfl) F5 N5 (N5.isList (show (D1, LCg.lst zs) ∈ _ by k_mem)) hz (by rw [List.length_map, List.length_range]; decide) ?_
      intro h6 z t6 tk6 F6 N6 hzm hmin
      (try dsimp only)
      iterate 2 (walk_at "m_step")
      have hb : (widthOf M false == ((X 0).length : Int) + (((X 1).length : Int) + (((X 2).length : Int) + (((X 3).length : Int) + 0))) - z) = true := by
        rw [beq_iff_eq]
        have := final_law hX hM hmax hzm hmin
        omega
      rw [hb]
      exact hQ _ _ _ _ F6 fun p hp => (List.mem_cons.mp hp).elim (fun e => e ▸ N6 (107, tabObj xs) (by k_mem)) (N6 p)
end
end
end
section
open PySem PySem.W PyProof.Rows PySem.Calls
local macro_rules | `(tactic| k_ne) => `(tactic| ((try dsimp only); first | assumption | exact Ne.symm (by assumption) | (refine neN ?_; (try dsimp only); omega)))
local macro_rules | `(tactic| lcg_off) => `(tactic| (simp only [LCg.Off3, and_true]; assumption))
local macro_rules | `(tactic| walk_at "none") => `(tactic| skip)
section
open PySem PySem.W PyProof.Rows PySem.Calls
theorem len_word {prog : Program} {w : World} {A : Around} {s : Shared} {Q E : Value → Shared → Prop} {k : Nat} {x : Str} {t : Tok} (hx : Word k x) (h : Q (.int x.length (s.toks + 1)) { s with toks := s.toks + 1 + 1 }) : wpAny (model prog w) A (call (.builtin "len") [.str x t]) Q E s :=
  len_small (by have := hx.2.2.1; omega) h
local macro_rules | `(tactic| walk_at "call builtin:len") => `(tactic| (k_dflt (refine len_word (by assumption) ?_)))
theorem mark_N {prog : Program} {w : World} {A : Around} {s : Shared} {Q E : Value → Shared → Prop} {i : Int} {t u : Tok} {value slice : Expr} (h : ∀ y t' tk', Mark y → Q (.str y t') { s with toks := tk' })
    (hs : subscripted slice false (.str (Str.ofString "|!~(") t) (.int (i.fmod 4) u) = operate [.str (Str.ofString "|!~(") t, .int (i.fmod 4) u] (getItem (.str (Str.ofString "|!~(") t) (.int (i.fmod 4) u)) := by with_unfolding_all rfl)
    (ht : ∀ r, letTemporaryGo value (.str (Str.ofString "|!~(") t) r = pure () := by intro _; with_unfolding_all rfl) :
    wpAny (model prog w) A (subscriptTail value slice (.str (Str.ofString "|!~(") t) (.int (i.fmod 4) u)) Q E s := by
  obtain ⟨h0, h1⟩ := fmod_range i (b := 4) (by decide)
  have hl : (Str.ofString "|!~(").length = 4 := by decide +kernel
  exact item_is rfl (by rw [hl]; omega) (by rw [hl]; exact h1) (by rw [hl]; decide) (h _ _ _ (mark_at h0 h1)) hs ht
local macro_rules | `(tactic| walk_at "subscriptTail") => `(tactic| ((with_reducible show wpAny _ _ (subscriptTail _ _ (Value.str (Str.ofString "|!~(") _) _) _ _ _); k_dflt (refine mark_N ?_); intro y' t' tk' hy'))
set_option maxHeartbeats 8000000 in
set_option maxRecDepth 100000 in
theorem blkA {w : World} {s : Shared} {Q : Flow → Shared → Prop} {h₀ : Heap} {L fa : Addr} {p : Program} {loose : List Str} {mean : ExcName → Option Value} {mg mb : Str → Option Value} {l : Addr} {vs : List Value} {ns : List Int} {o1 o2 o3 o4 o5 o6 : Obj}
    (XX : (hd.heap_39 w.params).In h₀) (T : Top p loose mean mg mb h₀) (C : CodeHd h₀ 109 107) (h107 : @LT.lt Nat _ 107 L) (hl : h₀.IsList l vs.toArray) (hI : IntsAre vs ns) (hlen : ns.length ≤ 63)
    (F : Fr h₀ L s.heap (fun y => if y = Str.ofString "script" then some (.ref l) else none))
    (N : News h₀ L s.heap [(L + 1 + 1 + 1 + 1 + 1 + 1, o6), (L + 1 + 1 + 1 + 1 + 1, o5), (L + 1 + 1 + 1 + 1, o4), (L + 1 + 1 + 1, o3), (L + 1 + 1, o2), (L + 1, o1), (107, tabObj #[])])
    (d1 : o1.data = .cell none) (d2 : o2.data = .cell none)
    (k : ∀ h' tk' m' x0 x1 x2 x3 y ty lw nw t0 t1 t2 t3 P a0 a1 a2 a3 o1' o2' Dd od, Word 3 x0 → Word 4 x1 → Word 3 x2 → Word 4 x3 → Mark y → Fr h₀ L h' m' → m' (Str.ofString "ports") = some (.ref P) → o1'.data = .cell (some (.ref lw)) → o2'.data = .cell (some (.str y ty)) →
      News h₀ L h' [(P, LCg.lst [.int (val x0) a0, .int (val x1) a1, .int (val x2) a2, .int (val x3) a3]), (Dd, od), (lw, listOf #[.str x0 t0, .str x1 t1, .str x2 t2, .str x3 t3] nw), (L + 1 + 1 + 1 + 1 + 1 + 1, o6), (L + 1 + 1 + 1 + 1 + 1, o5), (L + 1 + 1 + 1 + 1, o4), (L + 1 + 1 + 1, o3), (L + 1 + 1, o2'), (L + 1, o1'), (107, tabObj #[])] →
      wpAny (model Challenge.rw_zd0002_01.row.prog w) (lawA L fa) (execs (lawBody.drop 3) (lawEnv L fa)) Q (fun _ _ => False) { s with heap := h', toks := tk' }) :
    wpAny (model Challenge.rw_zd0002_01.row.prog w) (lawA L fa) (execs (lawBody.drop 0) (lawEnv L fa)) Q (fun _ _ => False) s := by
  show wpAny _ _ (execs (_ :: _ :: _ :: lawBody.drop 3) (envOfC _ (Scope.mk _ _ _ _ _) _ _ _)) _ _ _
  revert XX; k_fill; intro XX
  iterate 9 (walk_at "m_step")
  k_dflt (refine words_N (by k_asm) (by k_asm) (by k_asm) (by k_asm) (by k_room) (by rfl) (by assumption) (by assumption) (by omega) ?_)
  intro x0 x1 x2 x3 lw nw t0 t1 t2 t3 h1 tk1 w0 w1 w2 w3 F1 N1 ne1
  (simp only [AllNe, and_true] at ne1)
  obtain ⟨ne1', ne2', ne3', ne4', ne5', ne6', ne7'⟩ := ne1
  (try dsimp only)
  iterate 58 (walk_at "m_step")
  have hs : StrsAre [.str x0 t0, .str x1 t1, .str x2 t2, .str x3 t3] [x0, x1, x2, x3] := .cons _ _ (.cons _ _ (.cons _ _ (.cons _ _ .nil)))
  have hf : ∀ x ∈ [x0, x1, x2, x3], Figs x := by
    intro x hx
    simp only [List.mem_cons, List.not_mem_nil, or_false] at hx
    rcases hx with rfl | rfl | rfl | rfl
    · exact w0.figs
    · exact w1.figs
    · exact w2.figs
    · exact w3.figs
  refine LCg.CompSrc.ledger (by rfl) (by k_asm) (by k_asm) (by k_mem) ?sz ?_
  case sz => (show 4 ≤ sizeLine); rw [sizeLine_eq]; decide
  intro g'
  refine rest_fix _ _ (fun i us => IntsAre us (([x0, x1, x2, x3].take i).map val)) (by lcg_src) .nil ?step ?fin
  case step =>
    intro i us hi hu v I oI C oC D m₂ h tk E' hv hC hx F N off ne
    obtain ⟨x, t, rfl, hxx⟩ := hs.item i v (by simpa using hv)
    iterate 10 (walk_at "m_step")
    refine port_N (by k_asm) (by k_asm) (by k_asm) (by k_asm) (by k_room) (hf x (List.mem_of_getElem? hxx)) (by assumption) ?_
    intro t' h' tk' F' N'
    refine ⟨⟨_, _, rfl, F', N'⟩, ?_⟩
    rw [List.take_add_one, hxx, List.map_append]
    exact ksk_snoc hu
  case fin =>
    intro zs hz
    have hz' : IntsAre zs [val x0, val x1, val x2, val x3] := hz
    clear hz
    obtain ⟨a0, z1, e0, h0⟩ := hz'.cons_inv
    obtain ⟨a1, z2, e1, h1⟩ := h0.cons_inv
    obtain ⟨a2, z3, e2, h2⟩ := h1.cons_inv
    obtain ⟨a3, z4, e3, h3⟩ := h2.cons_inv
    rw [e0, e1, e2, e3, h3.nil_inv]
    clear hz' e0 h0 e1 h1 e2 h2 e3 h3
    iterate 1 (walk_at "m_step")
    (try dsimp only)
    (with_reducible rename Fr _ _ _ _ => F9); (with_reducible rename News _ _ _ _ => N9)
    exact k _ _ _ _ _ _ _ _ _ _ _ _ _ _ _ _ _ _ _ _ _ _ _ _ w0 w1 w2 w3 (by assumption) F9 (by rfl) (by assumption) (by assumption) N9
end
section
open PySem PySem.W PyProof.Rows PySem.Calls
local macro_rules | `(tactic| k_all) => `(tactic| first | assumption | (with_reducible rename AllLt _ _ => hlt; exact fun q hq => Nat.ne_of_lt (of_allLt hlt q hq)))
local macro_rules | `(tactic| walk_at "eval Name") => `(tactic| (k_dflt (refine' nameX_L ?F ?v ?_ ?a ?b; (case b => rfl); (case F => k_asm); (case a => rfl); (case v => first | rfl | assumption); k_whole)))
/-- a turn's dict: of the even turns and of the odd ones -/
def Lines (w : World) (X : Int → Str) (i : Nat) (o : Obj) : Prop :=
  ∃ t, (i % 2 = 0 ∧ o.IsDictOf (intKind Challenge.rw_zd0002_01.row.prog w) [(0, .int (val (X (i : Int))) t)]) ∨ (i % 2 = 1 ∧ o.IsDictOf (intKind Challenge.rw_zd0002_01.row.prog w) [(0, .int (val (X (i : Int))) t), (1, .none)])
theorem mid_if {M : Model} {w : World} {A : Around} {t : Sem Flow} {s : Shared} {Q : Flow → Shared → Prop} {E : Value → Shared → Prop} {h₀ : Heap} {L d : Addr} {o : Obj} {m : Str → Option Value} {news : List (Addr × Obj)} {X : Int → Str} {i : Nat} (_ : Fr h₀ L s.heap m) (_ : News h₀ L s.heap ((d, o) :: news))
    (h1 : wpAny M A t (fun f s₂ => f = .next ∧ ∃ h' tk' o', s₂ = { s with heap := h', toks := tk' } ∧ Fr h₀ L h' m ∧ News h₀ L h' ((d, o') :: news) ∧ Lines w X i o') E s)
    (h2 : ∀ h' tk' o', Fr h₀ L h' m → News h₀ L h' ((d, o') :: news) → Lines w X i o' → Q .next { s with heap := h', toks := tk' }) : wpAny M A t Q E s :=
  wpAny_mono h1 (fun f s₂ h => by obtain ⟨rfl, h', tk', o', rfl, F, N, hL⟩ := h; exact h2 h' tk' o' F N hL) fun _ _ e => e
theorem width_any {w : World} {A : Around} {s : Shared} {Q E : Value → Shared → Prop} {h₀ : Heap} {L d : Addr} {o : Obj} {m : Str → Option Value} {news : List (Addr × Obj)} {X : Int → Str} {i : Nat} {p : Program} {loose : List Str} {mean : ExcName → Option Value} {mg mb : Str → Option Value}
    (F : Fr h₀ L s.heap m) (N : News h₀ L s.heap news) (XX : (hd.heap_39 w.params).In h₀) (T : Top p loose mean mg mb h₀) (hroom : A.depth + 1 < recursionLimit) (hhA : A.handled = none) (hds : (d == sysModules) = false)
    (ho : (d, o) ∈ news) (hE : ∀ i : Nat, i < 4 → i % 2 = 0 → Word 3 (X (i : Int))) (hO : ∀ i : Nat, i < 4 → i % 2 = 1 → Word 4 (X (i : Int))) (hi : i < 4) (hL : Lines w X i o)
    (h : ∀ t h' tk', Fr h₀ L h' m → News h₀ L h' news → Q (.int (X (i : Int)).length t) { s with heap := h', toks := tk' }) :
    wpAny (model Challenge.rw_zd0002_01.row.prog w) A (call (.ref 21) [.ref d]) Q E s := by
  obtain ⟨t, ⟨e, hd⟩ | ⟨e, hd⟩⟩ := hL
  · exact width_even F N XX T hroom hhA hds ho (hE i hi e) hd h
  · exact width_odd F N XX T hroom hhA hds ho (hO i hi e) hd h
local macro_rules | `(tactic| walk_at "call ref") => `(tactic| ((with_reducible show wpAny _ _ (call (Value.ref 21) _) _ _ _); k_dflt (refine width_any (by k_asm) (by k_asm) (by k_asm) (by k_asm) (by k_room) (by rfl) (by assumption) (by k_mem) (by assumption) (by assumption) (by assumption) (by assumption) ?_); intro t' h' tk' F' N'; (try dsimp only)))
local macro_rules | `(tactic| walk_at "ite") => `(tactic| (k_dflt (first | (refine ite_neg (show ¬ (decide ((_ : Int) = _)) = true from by rw [decide_eq_true_eq]; omega) ?_) | (refine ite_pos (show (decide ((_ : Int) = _)) = true from by rw [decide_eq_true_eq]; omega) ?_))))
local macro_rules | `(tactic| walk_at "RangeRest") => `(tactic| (with_reducible first | (refine RangeRest.succ (fun t' h' tk' F' N' => ?_)) | (refine RangeRest.zero (fun h' tk' F' N' => ?_))))
theorem len_lit {X : Int → Str} {zs : List Value} (h : IntsAre zs ((List.range 4).map fun (j : Nat) => (((X (j : Int)).length : Nat) : Int))) : ∃ t0 t1 t2 t3, zs = [.int ((X 0).length : Int) t0, .int ((X 1).length : Int) t1, .int ((X 2).length : Int) t2, .int ((X 3).length : Int) t3] := by
  obtain ⟨t0, z1, e0, h0⟩ := h.cons_inv
  obtain ⟨t1, z2, e1, h1⟩ := h0.cons_inv
  obtain ⟨t2, z3, e2, h2⟩ := h1.cons_inv
  obtain ⟨t3, z4, e3, h3⟩ := h2.cons_inv
  rw [e0, e1, e2, e3, h3.nil_inv]
  exact ⟨t0, t1, t2, t3, rfl⟩
theorem item_val {s : Shared} {prog : Program} {w : World} {A : Around} {Q E : Value → Shared → Prop} {h₀ : Heap} {L l : Addr} {news : List (Addr × Obj)} {u t0 t1 t2 t3 : Tok} {n i : Nat} {value slice : Expr} {X : Int → Str} (N : News h₀ L s.heap news) (hm : (l, listOf #[.int (val (X 0)) t0, .int (val (X 1)) t1, .int (val (X 2)) t2, .int (val (X 3)) t3] n) ∈ news) (hi : i < 4)
    (h : ∀ t, Q (.int (val (X (i : Int))) t) s) (hs : subscripted slice false (.ref l) (.int (i : Int) u) = operate [.ref l, .int (i : Int) u] (getItem (.ref l) (.int (i : Int) u)) := by with_unfolding_all rfl) :
    wpAny (model prog w) A (subscriptTail value slice (.ref l) (.int (i : Int) u)) Q E s := item_ints (fun k => val (X k)) N hm (by omega) h hs
local macro_rules | `(tactic| walk_at "subscriptTail Name Name ref int") => `(tactic| (k_dflt (refine item_val (by k_asm) (by k_mem) (by assumption) ?_); intro t'))
local macro_rules | `(tactic| size_fits) => `(tactic| assumption)
set_option maxHeartbeats 8000000 in
set_option maxRecDepth 100000 in
theorem blkB {w : World} {s : Shared} {Q : Flow → Shared → Prop} {h₀ : Heap} {L fa : Addr} {p : Program} {loose : List Str} {mean : ExcName → Option Value} {mg mb : Str → Option Value} {m : Str → Option Value}
    {x0 x1 x2 x3 : Str} {P lw c1 c2 c3 c4 c5 c6 : Addr} {a0 a1 a2 a3 : Tok} {ow o1 o2 o3 o4 o5 o6 ot : Obj}
    (w0 : Word 3 x0) (w1 : Word 4 x1) (w2 : Word 3 x2) (w3 : Word 4 x3) (XX : (hd.heap_39 w.params).In h₀) (T : Top p loose mean mg mb h₀) (C : CodeHd h₀ 109 107) (h107 : @LT.lt Nat _ 107 L)
    (F : Fr h₀ L s.heap m) (hp : m (Str.ofString "ports") = some (.ref P))
    (N : News h₀ L s.heap [(P, LCg.lst [.int (val x0) a0, .int (val x1) a1, .int (val x2) a2, .int (val x3) a3]), (lw, ow), (c6, o6), (c5, o5), (c4, o4), (c3, o3), (c2, o2), (c1, o1), (107, ot)])
    (k : ∀ h' tk' m' W nW b0 b1 b2 b3, Fr h₀ L h' m' → m' (Str.ofString "ports") = some (.ref P) → m' (Str.ofString "widths") = some (.ref W) →
      News h₀ L h' [(W, listOf #[.int (x0.length : Int) b0, .int (x1.length : Int) b1, .int (x2.length : Int) b2, .int (x3.length : Int) b3] nW), (P, LCg.lst [.int (val x0) a0, .int (val x1) a1, .int (val x2) a2, .int (val x3) a3]), (lw, ow), (c6, o6), (c5, o5), (c4, o4), (c3, o3), (c2, o2), (c1, o1), (107, ot)] →
      wpAny (model Challenge.rw_zd0002_01.row.prog w) (lawA L fa) (execs (lawBody.drop 5) (lawEnv L fa)) Q (fun _ _ => False) { s with heap := h', toks := tk' }) :
    wpAny (model Challenge.rw_zd0002_01.row.prog w) (lawA L fa) (execs (lawBody.drop 3) (lawEnv L fa)) Q (fun _ _ => False) s := by
  show wpAny _ _ (execs (_ :: _ :: lawBody.drop 5) (envOfC _ (Scope.mk _ _ _ _ _) _ _ _)) _ _ _
  have N0 : News h₀ L s.heap [(P, listOf #[.int (val (wd x0 x1 x2 x3 0)) a0, .int (val (wd x0 x1 x2 x3 1)) a1, .int (val (wd x0 x1 x2 x3 2)) a2, .int (val (wd x0 x1 x2 x3 3)) a3] 4), (lw, ow), (c6, o6), (c5, o5), (c4, o4), (c3, o3), (c2, o2), (c1, o1), (107, ot)] := N
  clear N
  have hE : ∀ i : Nat, i < 4 → i % 2 = 0 → Word 3 (wd x0 x1 x2 x3 (i : Int)) := by
    intro i h e
    match i, h, e with
    | 0, _, _ => exact w0
    | 2, _, _ => exact w2
    | n + 4, h, _ => exact absurd h (by omega)
  have hO : ∀ i : Nat, i < 4 → i % 2 = 1 → Word 4 (wd x0 x1 x2 x3 (i : Int)) := by
    intro i h e
    match i, h, e with
    | 1, _, _ => exact w1
    | 3, _, _ => exact w3
    | n + 4, h, _ => exact absurd h (by omega)
  have k' : ∀ h' tk' m' W nW b0 b1 b2 b3, Fr h₀ L h' m' → m' (Str.ofString "ports") = some (.ref P) → m' (Str.ofString "widths") = some (.ref W) →
      News h₀ L h' [(W, listOf #[.int ((wd x0 x1 x2 x3 0).length : Int) b0, .int ((wd x0 x1 x2 x3 1).length : Int) b1, .int ((wd x0 x1 x2 x3 2).length : Int) b2, .int ((wd x0 x1 x2 x3 3).length : Int) b3] nW), (P, listOf #[.int (val (wd x0 x1 x2 x3 0)) a0, .int (val (wd x0 x1 x2 x3 1)) a1, .int (val (wd x0 x1 x2 x3 2)) a2, .int (val (wd x0 x1 x2 x3 3)) a3] 4), (lw, ow), (c6, o6), (c5, o5), (c4, o4), (c3, o3), (c2, o2), (c1, o1), (107, ot)] →
      wpAny (model Challenge.rw_zd0002_01.row.prog w) (lawA L fa) (execs (lawBody.drop 5) (lawEnv L fa)) Q (fun _ _ => False) { s with heap := h', toks := tk' } := k
  clear k w0 w1 w2 w3
  generalize wd x0 x1 x2 x3 = X at *
  revert XX; k_fill; intro XX
  iterate 15 (walk_at "m_step")
  (rename IsRange _ _ _ _ _ _ _ _ => R')
  (with_reducible rename Fr _ _ _ _ => F1); (with_reducible rename News _ _ _ _ => N1)
  have F2 := fr_mix [Str.ofString "i", Str.ofString "lines"] F1
  refine cells_loop (fun j => ((X j).length : Int)) [Str.ofString "i", Str.ofString "lines"] (by rfl) R' F2 N1 ?step ?done
  case step =>
    clear F1 F2 N1 R'
    intro i u zs n I it t h tk hi hz nI hbI F3 N3
    have hsz : (List.toArray zs).size ≤ sizeLine := by
      rw [List.size_toArray, hz.length, List.length_map, List.length_range, sizeLine_eq]; omega
    (simp only [List.forall_mem_cons, List.not_mem_nil, false_implies, implies_true, and_true] at hbI)
    iterate 13 (walk_at "m_step")
    (rename Obj.IsDictOf _ _ (intKeyPairs _) => hD)
    (with_reducible rename News _ _ _ _ => Nd); (with_reducible rename Fr _ _ _ _ => Fd)
    refine mid_if (w := w) (X := X) (i := i) Fd Nd ?cond ?rest
    case cond =>
      rcases Nat.mod_two_eq_zero_or_one i with e | e
      · have e2 : ((i : Nat) : Int).fmod 2 = 0 := by rw [Int.fmod_eq_emod_of_nonneg _ (by decide)]; omega
        iterate 12 (walk_at "m_step")
        (with_reducible rename News _ _ _ _ => Ne); (with_reducible rename Fr _ _ _ _ => Fe)
        exact ⟨rfl, _, _, _, rfl, Fe, Ne, _, .inl ⟨e, hD⟩⟩
      · have e2 : ((i : Nat) : Int).fmod 2 = 1 := by rw [Int.fmod_eq_emod_of_nonneg _ (by decide)]; omega
        iterate 17 (walk_at "m_step")
        (with_reducible rename News _ _ _ _ => Ne); (with_reducible rename Fr _ _ _ _ => Fe)
        (rename Obj.IsDictOf _ _ _ => hD2)
        exact ⟨rfl, _, _, _, rfl, Fe, Ne, _, .inr ⟨e, hD2⟩⟩
    case rest =>
      clear hD Nd Fd
      intro h' tk' o' Fd Nd hL
      iterate 19 (walk_at "m_step")
      (with_reducible rename Fr _ _ _ _ => Fe); (with_reducible rename News _ _ _ _ => Ne); (simp only [List.push_toArray] at Ne)
      exact ⟨rfl, _, _, _, _, _, rfl, Fe, fun y hy => off_one hy (by decide) (off_one hy (by decide) (mix_off hy)), fun p hp => Ne p (.tail _ hp)⟩
  case done =>
    intro u zs n h tk hz F9 N9
    obtain ⟨b0, b1, b2, b3, rfl⟩ := len_lit hz
    exact k' h tk _ _ n b0 b1 b2 b3 F9 hp (by rfl) N9
end
end
end Mine
end
section
open PySem PySem.W PyProof.Rows PySem.Calls
namespace Mine
theorem news_cons {h₀ h : Heap} {L : Addr} {q : Addr × Obj} {news r : List (Addr × Obj)} (N : News h₀ L h news) (hq : q ∈ news) (R : News h₀ L h r) : News h₀ L h (q :: r) := fun p hp => by
  rcases List.mem_cons.mp hp with rfl | hp
  · exact N _ hq
  · exact R p hp
theorem news_app {h₀ h : Heap} {L : Addr} {news r : List (Addr × Obj)} (N : News h₀ L h news) (hs : ∀ p ∈ r, p ∈ news) : News h₀ L h r := fun p hp => N p (hs p hp)
theorem tab_list {h₀ h : Heap} {L t l : Addr} {xs : Array Value} {its : Array Value} {n : Nat} {news : List (Addr × Obj)} (N : News h₀ L h news) (h1 : (t, tabObj xs) ∈ news) (h2 : (l, listOf its n) ∈ news) : @Ne Nat l t := fun e => by
  have e1 := (N _ h1).1
  have e2 := (N _ h2).1
  have e' : l = t := e
  subst e'
  have e3 : tabObj xs = listOf its n := Option.some.inj (e1.symm.trans e2)
  cases congrArg Obj.cls e3
theorem all_cons {P : Addr × Obj → Prop} {q : Addr × Obj} {r : List (Addr × Obj)} (h : P q) (hr : ∀ p ∈ r, P p) : ∀ p ∈ q :: r, P p := List.forall_mem_cons.mpr ⟨h, hr⟩
set_option maxHeartbeats 8000000 in
set_option maxRecDepth 100000 in
theorem law_walk {w : World} {s : Shared} {Q : Flow → Shared → Prop} {h₀ : Heap} {L fa : Addr} {p : Program} {loose : List Str} {mean : ExcName → Option Value} {mg mb : Str → Option Value} {l : Addr} {vs : List Value} {ns : List Int} {o1 o2 o3 o4 o5 o6 : Obj}
    (X : (hd.heap_39 w.params).In h₀) (T : Top p loose mean mg mb h₀) (C : CodeHd h₀ 109 107) (h107 : @LT.lt Nat _ 107 L) (hl : h₀.IsList l vs.toArray) (hI : IntsAre vs ns) (hlen : ns.length ≤ 63)
    (F : Fr h₀ L s.heap (fun y => if y = Str.ofString "script" then some (.ref l) else none))
    (N : News h₀ L s.heap [(L + 1 + 1 + 1 + 1 + 1 + 1, o6), (L + 1 + 1 + 1 + 1 + 1, o5), (L + 1 + 1 + 1 + 1, o4), (L + 1 + 1 + 1, o3), (L + 1 + 1, o2), (L + 1, o1), (107, tabObj #[])])
    (d1 : o1.data = .cell none) (d2 : o2.data = .cell none) (d3 : o3.data = .cell none) (d4 : o4.data = .cell none) (d5 : o5.data = .cell none) (d6 : o6.data = .cell none)
    (hQ : ∀ h' tk' m' xs news, Fr h₀ L h' m' → News h₀ L h' ((107, tabObj xs) :: news) → Q (.ret (.bool true)) { s with heap := h', toks := tk' }) :
    wpAny (model Challenge.rw_zd0002_01.row.prog w) (lawA L fa) (execs lawBody (lawEnv L fa)) Q (fun _ _ => False) s := by
  refine blkA X T C h107 hl hI hlen F N d1 d2 ?_
  intro h1 tk1 m1 x0 x1 x2 x3 y ty lw nw t0 t1 t2 t3 P a0 a1 a2 a3 o1' o2' Dd od w0 w1 w2 w3 hy F1 hp1 e1 e2 N1
  refine blkB (P := P) (lw := lw) (ow := wordsO (wd x0 x1 x2 x3) t0 t1 t2 t3 nw) (c6 := L + 1 + 1 + 1 + 1 + 1 + 1) (o6 := o6) (c5 := L + 1 + 1 + 1 + 1 + 1) (o5 := o5) (c4 := L + 1 + 1 + 1 + 1) (o4 := o4) (c3 := L + 1 + 1 + 1) (o3 := o3) (c2 := L + 1 + 1) (o2 := o2') (c1 := L + 1) (o1 := o1') (ot := tabObj #[])
    w0 w1 w2 w3 X T C h107 F1 hp1 (news_cons N1 (.head _) (news_app N1 fun p hp => .tail _ (.tail _ hp))) ?_
  intro h2 tk2 m2 W nW b0 b1 b2 b3 F2 hp2 hw2 N2
  have hX : Words (wd x0 x1 x2 x3) := wd_words w0 w1 w2 w3
  refine blkC (X := wd x0 x1 x2 x3) (lw := lw) (P := P) (W := W) (nw := nw) (np := 4) (nW := nW) (t0 := t0) (t1 := t1) (t2 := t2) (t3 := t3) (a0 := a0) (a1 := a1) (a2 := a2) (a3 := a3) (b0 := b0) (b1 := b1) (b2 := b2) (b3 := b3) (o6 := o6) (o5 := o5) (o4 := o4) (o3 := o3) (o2 := o2') (o1 := o1') hX X T C h107 F2 hp2 hw2
    (news_cons N2 (.tail _ (.tail _ (.head _))) (news_cons N2 (.tail _ (.head _)) (news_cons N2 (.head _) (news_app N2 fun p hp => .tail _ (.tail _ (.tail _ hp)))))) e1 e2 d3 d4 d5 d6 ?_
  intro h3 tk3 m3 Ds nD o3' r0 r1 r2 r3 c00 c01 c02 c03 c10 c11 c12 c13 c20 c21 c22 c23 c30 c31 c32 c33 n0 n1 n2 n3 F3 hp3 hw3 e3 N3
  generalize wd x0 x1 x2 x3 = Y at *
  have q4 : ∀ l its n, (l, listOf its n) ∈ _ → @Ne Nat l (L + 1 + 1 + 1 + 1) := fun l its n hm => Ne.symm (cell_list N3 (by k_mem) d4 hm)
  have q5 : ∀ l its n, (l, listOf its n) ∈ _ → @Ne Nat l (L + 1 + 1 + 1 + 1 + 1) := fun l its n hm => Ne.symm (cell_list N3 (by k_mem) d5 hm)
  have q6 : ∀ l its n, (l, listOf its n) ∈ _ → @Ne Nat l (L + 1 + 1 + 1 + 1 + 1 + 1) := fun l its n hm => Ne.symm (cell_list N3 (by k_mem) d6 hm)
  refine blkD (X := Y) (lw := lw) (nw := nw) (t0 := t0) (t1 := t1) (t2 := t2) (t3 := t3) (o6 := o6) (o5 := o5) (o2 := o2') (o1 := o1')
    (tl := [(Ds, listOf #[.ref r0, .ref r1, .ref r2, .ref r3] nD), (r0, rowOf Y 0 c00 c01 c02 c03 n0), (r1, rowOf Y 1 c10 c11 c12 c13 n1), (r2, rowOf Y 2 c20 c21 c22 c23 n2), (r3, rowOf Y 3 c30 c31 c32 c33 n3), (P, portsO Y a0 a1 a2 a3 4), (W, widthsO Y b0 b1 b2 b3 nW), (L + 1 + 1 + 1 + 1, o4), (L + 1 + 1 + 1, o3'), (107, tabObj #[])])
    hX hy X T C h107 F3 ?ND e1 e2 d5 d6 ?h5 ?h6 ?_
  case ND => exact news_app N3 fun p hp => by revert p; kcf_all
  case h5 =>
    refine all_cons (q5 _ _ _ (by k_mem)) (all_cons (q5 _ _ _ (by k_mem)) (all_cons (q5 _ _ _ (by k_mem)) (all_cons (q5 _ _ _ (by k_mem)) (all_cons (q5 _ _ _ (by k_mem)) (all_cons (q5 _ _ _ (by k_mem)) (all_cons (q5 _ _ _ (by k_mem)) (all_cons ?_ (all_cons ?_ (all_cons ?_ fun _ h => nomatch h)))))))))
    all_goals (refine neN ?_; (try dsimp only); omega)
  case h6 =>
    refine all_cons (q6 _ _ _ (by k_mem)) (all_cons (q6 _ _ _ (by k_mem)) (all_cons (q6 _ _ _ (by k_mem)) (all_cons (q6 _ _ _ (by k_mem)) (all_cons (q6 _ _ _ (by k_mem)) (all_cons (q6 _ _ _ (by k_mem)) (all_cons (q6 _ _ _ (by k_mem)) (all_cons ?_ (all_cons ?_ (all_cons ?_ fun _ h => nomatch h)))))))))
    all_goals (refine neN ?_; (try dsimp only); omega)
  intro h4 tk4 M tM Or ys nO J js Td us new o5' o6' F4 e5 e6 hO hnew hjs hus hM hmax N4
  (simp only [NewOff, and_true] at hnew)
  obtain ⟨-, -, -, -, -, -, -, hn4, -, -⟩ := hnew
  (simp only [List.cons_append, List.nil_append] at N4)
  have q4' : ∀ l its n, (l, listOf its n) ∈ _ → @Ne Nat l (L + 1 + 1 + 1 + 1) := fun l its n hm => Ne.symm (cell_list N4 (by k_mem) d4 hm)
  refine blkE (X := Y) (m := fun z => if z = Str.ofString "top" then some (.int M tM) else if z = Str.ofString "orders" then some (.ref Or) else m3 z) (Ds := Ds) (r0 := r0) (r1 := r1) (r2 := r2) (r3 := r3) (Or := Or) (Td := Td) (nD := nD) (n0 := n0) (n1 := n1) (n2 := n2) (n3 := n3) (nO := nO) (M := M) (tM := tM) (ys := ys) (us := us) (o3 := o3') (o4 := o4) (o5 := o5')
    (c00 := c00) (c01 := c01) (c02 := c02) (c03 := c03) (c10 := c10) (c11 := c11) (c12 := c12) (c13 := c13) (c20 := c20) (c21 := c21) (c22 := c22) (c23 := c23) (c30 := c30) (c31 := c31) (c32 := c32) (c33 := c33)
    (tl := (J, LCg.lst js) :: (L + 1 + 1 + 1 + 1 + 1 + 1, o6') :: (lw, wordsO Y t0 t1 t2 t3 nw) :: (P, portsO Y a0 a1 a2 a3 4) :: (W, widthsO Y b0 b1 b2 b3 nW) :: (L + 1, o1') :: (107, tabObj #[]) :: new)
    hX X T C h107 F4 (by rfl) (by rfl) ?NE e3 d4 e5 ?h4 (hO.mono fun p hp => .tail _ (.tail _ (.tail _ (.tail _ (.tail _ (.tail _ (.tail _ (hp)))))))) hus hM hmax ?_
  case NE => exact (news_cons N4 (by k_mem) (news_cons N4 (by k_mem) (news_cons N4 (by k_mem) (news_cons N4 (by k_mem) (news_cons N4 (by k_mem) (news_cons N4 (by k_mem) (news_cons N4 (by k_mem) (news_cons N4 (by k_mem) (news_cons N4 (by k_mem) (news_cons N4 (by k_mem) (news_cons N4 (by k_mem) (news_cons N4 (by k_mem) (news_cons N4 (by k_mem) (news_cons N4 (by k_mem) (news_cons N4 (by k_mem) (news_cons N4 (by k_mem) (news_cons N4 (by k_mem) (news_app N4 fun p hp => .tail _ (.tail _ (.tail _ (.tail _ (.tail _ (.tail _ (.tail _ (.tail _ (.tail _ (.tail _ (.tail _ (.tail _ (.tail _ (.tail _ (.tail _ (.tail _ (.tail _ (.tail _ (hp))))))))))))))))))))))))))))))))))))
  case h4 =>
    refine all_cons (q4' _ _ _ (by k_mem)) (all_cons ?_ (all_cons (q4' _ _ _ (by k_mem)) (all_cons (q4' _ _ _ (by k_mem)) (all_cons (q4' _ _ _ (by k_mem)) (all_cons ?_ (all_cons ?_ hn4))))))
    all_goals (refine neN ?_; (try dsimp only); omega)
  intro h5 tk5 m5 o4' F5 hm5 N5
  refine blkF (X := Y) (J := J) (Td := Td) (js := js) (us := us) (o5 := o5') (o6 := o6') (tl := [(lw, wordsO Y t0 t1 t2 t3 nw), (P, portsO Y a0 a1 a2 a3 4), (W, widthsO Y b0 b1 b2 b3 nW), (L + 1, o1')]) hX X T C h107 F5 ?NF e5 e6 ?ht ?nJ ?nT hjs hus ?_
  case NF => exact (news_cons N5 (by k_mem) (news_cons N5 (by k_mem) (news_cons N5 (by k_mem) (news_cons N5 (by k_mem) (news_cons N5 (by k_mem) (news_cons N5 (by k_mem) (news_cons N5 (by k_mem) (news_cons N5 (by k_mem) (news_cons N5 (by k_mem) (fun _ h => nomatch h))))))))))
  case ht =>
    refine all_cons (tab_list N5 (t := 107) (xs := #[]) (by k_mem) (by k_mem)) (all_cons (tab_list N5 (t := 107) (xs := #[]) (by k_mem) (by k_mem)) (all_cons (tab_list N5 (t := 107) (xs := #[]) (by k_mem) (by k_mem)) (all_cons ?_ fun _ h => nomatch h)))
    refine neN ?_; (try dsimp only); omega
  case nJ => exact tab_list N5 (t := 107) (xs := #[]) (by k_mem) (show (J, LCg.lst js) ∈ _ by k_mem)
  case nT => exact tab_list N5 (t := 107) (xs := #[]) (by k_mem) (show (Td, LCg.lst us) ∈ _ by k_mem)
  intro h6 tk6 m6 xs F6 hm6 N6
  have hp6 : m6 (Str.ofString "ports") = some (.ref P) := (hm6 _ (by decide)).trans ((hm5 _ (by decide)).trans hp3)
  have hw6 : m6 (Str.ofString "widths") = some (.ref W) := (hm6 _ (by decide)).trans ((hm5 _ (by decide)).trans hw3)
  refine blkG (X := Y) (lw := lw) (P := P) (W := W) (Td := Td) (nw := nw) (np := 4) (nW := nW) (t0 := t0) (t1 := t1) (t2 := t2) (t3 := t3) (a0 := a0) (a1 := a1) (a2 := a2) (a3 := a3) (b0 := b0) (b1 := b1) (b2 := b2) (b3 := b3) (us := us) (o1 := o1') (o5 := o5') (xs := xs) hX X T C h107 F6 hp6 hw6 ?NG e1 e5 hus ?_
  case NG => exact (news_cons N6 (by k_mem) (news_cons N6 (by k_mem) (news_cons N6 (by k_mem) (news_cons N6 (by k_mem) (news_cons N6 (by k_mem) (news_cons N6 (by k_mem) (news_cons N6 (by k_mem) (fun _ h => nomatch h))))))))
  intro h' tk' m' news F' N'
  exact hQ _ _ _ _ _ F' N'
end Mine
end
open PySem PySem.W PyProof.Rows PySem.Calls
set_option maxRecDepth 100000 in
set_option maxHeartbeats 8000000 in
theorem PySem.Challenge.cw_zd0002_01_holds : PySem.Challenge.rw_zd0002_01.Holds :=
  Mine.hd (by
  k_go0
  all_goals try k_fold
  (rename CellsAre _ _ _ => hca; clear hca)
  repeat (rename _ = Data.cell (bindC _ _ _ _) => hb; (have hb' : _ = Data.cell none := hb); clear hb)
  (rename Fr _ _ _ _ => F'; have F2 : Fr _ _ _ (fun y => if y = Str.ofString "script" then some (.ref _) else none) := F'; clear F')
  (rename News _ _ _ _ => N'; have N2 := N'; clear N')
  (try dsimp only at F2); (try dsimp only at N2)
  (try dsimp only)
  (rename ¬ _ < _ => hlen)
  (rename Frag.In _ _ => X')
  (with_reducible rename IntsAre _ _ => hI)
  (with_reducible rename Top _ _ _ _ _ (ghostOf _ _) => T')
  rename CodeHd _ _ _ => C'
  rename 107 < _ => l0
  rename Heap.IsList (ghostOf _ _) _ _ => hl
  refine wpAny_mono (Mine.law_walk X' T' C' l0 hl hI (by omega) F2 N2 (by assumption) (by assumption) (by assumption) (by assumption) (by assumption) (by assumption) ?_) (fun _ _ h => h) (fun _ _ h => h.elim)
  intro h' tk' m' xs news F' N'
  (try dsimp only)
  k_steps)
