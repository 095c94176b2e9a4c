/-
  Values of JSON, as the thin package has them and as the program has them: plain words.
  Conditions: none.
-/
import Derived.Lib.ValidLaws
namespace Go.Proofs.YthggnkmlnjlggaaGreatDoor

/-- A value of the thin package. -/
inductive V where
  | mk (kind half : Int) (text : ByteArray) (list : List V) (keys : List ByteArray) (vals : List V)
/-- A value of the program. -/
inductive J where
  | nil
  | bool (b : Bool)
  | int (n : Int)
  | flt (h : Int)
  | str (s : ByteArray)
  | arr (l : List J)
  | obj (ks : List ByteArray) (vs : List J)

def V.kind : V → Int | .mk k _ _ _ _ _ => k
def V.half : V → Int | .mk _ h _ _ _ _ => h
def V.text : V → ByteArray | .mk _ _ t _ _ _ => t
def V.list : V → List V | .mk _ _ _ l _ _ => l
def V.keys : V → List ByteArray | .mk _ _ _ _ ks _ => ks
def V.vals : V → List V | .mk _ _ _ _ _ vs => vs

def nilS : ByteArray := ⟨#[]⟩
def V.null : V := .mk 0 0 nilS [] [] []
def V.arr (l : List V) : V := .mk 5 0 nilS l [] []

mutual
def toJ : V → J
  | .mk k h t l ks vs =>
    if k = 0 then .nil else if k = 1 then .bool false else if k = 2 then .bool true
    else if k = 3 then (if h % 2 = 0 then .int (h / 2) else .flt h)
    else if k = 4 then .str t else if k = 5 then .arr (toJs l) else .obj ks (toJs vs)
def toJs : List V → List J
  | [] => []
  | v :: r => toJ v :: toJs r
end
mutual
def ofJ : J → V
  | .nil => .mk 0 0 nilS [] [] []
  | .bool b => .mk (if b then 2 else 1) 0 nilS [] [] []
  | .int n => .mk 3 (2 * n) nilS [] [] []
  | .flt h => .mk 3 h nilS [] [] []
  | .str s => .mk 4 0 s [] [] []
  | .arr l => .mk 5 0 nilS (ofJs l) [] []
  | .obj ks vs => .mk 6 0 nilS [] ks (ofJs vs)
def ofJs : List J → List V
  | [] => []
  | j :: r => ofJ j :: ofJs r
end
theorem toJs_map : ∀ l : List V, toJs l = l.map toJ
  | [] => by simp [toJs]
  | v :: r => by simp [toJs, toJs_map r]
theorem ofJs_map : ∀ l : List J, ofJs l = l.map ofJ
  | [] => by simp [ofJs]
  | v :: r => by simp [ofJs, ofJs_map r]

/-- The bytes of a text rise. -/
def keyLt : List UInt8 → List UInt8 → Bool
  | [], [] => false
  | [], _ :: _ => true
  | _ :: _, [] => false
  | a :: r, b :: s => a < b || (a == b && keyLt r s)
def Rising (ks : List ByteArray) : Prop := ks.Pairwise fun a b => keyLt a.data.toList b.data.toList = true

/-- Twice a number: an integer of at most 2^53 in amount, or a half below 2^52. -/
def HalfOk (h : Int) : Prop := -18014398509481984 ≤ h ∧ h ≤ 18014398509481984 ∧ (h % 2 = 0 ∨ (-9007199254740992 < h ∧ h < 9007199254740992))

/-- A right value: what 'Fit' lets in, and what is made of such values. -/
inductive Good : V → Prop
  | mk (k h : Int) (t : ByteArray) (l : List V) (ks : List ByteArray) (vs : List V)
    (k0 : 0 ≤ k) (k6 : k ≤ 6) (hk : k = 3 ∨ h = 0) (tk : k = 4 ∨ t = nilS) (lk : k = 5 ∨ l = []) (kk : k = 6 ∨ ks = []) (kv : ks.length = vs.length)
    (hh : HalfOk h) (ht : t.size ≤ 9223372036854775807 ∧ Lib.validD t.data.toList = true) (hl : l.length ≤ 1048576) (hv : vs.length ≤ 1048576)
    (hks : Rising ks) (hkt : ∀ s ∈ ks, s.size ≤ 9223372036854775807 ∧ Lib.validD s.data.toList = true) (gl : ∀ x ∈ l, Good x) (gv : ∀ x ∈ vs, Good x) : Good (.mk k h t l ks vs)

theorem half_two (h : Int) (he : h % 2 = 0) : 2 * (h / 2) = h := by omega

theorem map_same {f : V → J} {g : J → V} : ∀ {l : List V}, (∀ x ∈ l, g (f x) = x) → (l.map f).map g = l
  | [], _ => rfl
  | v :: r, h => by
    simp only [List.map_cons]
    rw [h v List.mem_cons_self, map_same fun x hx => h x (List.mem_cons_of_mem _ hx)]

/-- There and back. -/
theorem ofJ_toJ {v : V} (h : Good v) : ofJ (toJ v) = v := by
  induction h with
  | mk k h t l ks vs k0 k6 hk tk lk kk kv hh ht hl hv hks hkt gl gv ihl ihv =>
    have el : ofJs (toJs l) = l := by rw [toJs_map, ofJs_map]; exact map_same ihl
    have ev : ofJs (toJs vs) = vs := by rw [toJs_map, ofJs_map]; exact map_same ihv
    have hnil : ks = [] → vs = [] := fun e => List.eq_nil_of_length_eq_zero (by rw [← kv, e]; rfl)
    rcases (show k = 0 ∨ k = 1 ∨ k = 2 ∨ k = 3 ∨ k = 4 ∨ k = 5 ∨ k = 6 by omega) with rfl | rfl | rfl | rfl | rfl | rfl | rfl
    · simp_all [toJ, ofJ]
    · simp_all [toJ, ofJ]
    · simp_all [toJ, ofJ]
    · by_cases he : h % 2 = 0
      · have := half_two h he
        simp_all [toJ, ofJ]
      · simp_all [toJ, ofJ]
    · simp_all [toJ, ofJ]
    · simp_all [toJ, ofJ]
    · simp_all [toJ, ofJ]

/-- What the program's values are where they come of right ones. -/
inductive JGood : J → Prop
  | nil : JGood .nil
  | bool (b : Bool) : JGood (.bool b)
  | int (n : Int) (h : -9007199254740992 ≤ n ∧ n ≤ 9007199254740992) : JGood (.int n)
  | flt (h : Int) (ho : h % 2 ≠ 0) (hb : -9007199254740992 < h ∧ h < 9007199254740992) : JGood (.flt h)
  | str (s : ByteArray) (h : s.size ≤ 9223372036854775807 ∧ Lib.validD s.data.toList = true) : JGood (.str s)
  | arr (l : List J) (hl : l.length ≤ 1048576) (g : ∀ x ∈ l, JGood x) : JGood (.arr l)
  | obj (ks : List ByteArray) (vs : List J) (kv : ks.length = vs.length) (hv : vs.length ≤ 1048576) (hks : Rising ks) (hkt : ∀ s ∈ ks, s.size ≤ 9223372036854775807 ∧ Lib.validD s.data.toList = true) (g : ∀ x ∈ vs, JGood x) : JGood (.obj ks vs)

theorem toJ_good {v : V} (h : Good v) : JGood (toJ v) := by
  induction h with
  | mk k h t l ks vs k0 k6 hk tk lk kk kv hh ht hl hv hks hkt gl gv ihl ihv =>
    unfold HalfOk at hh
    rcases (show k = 0 ∨ k = 1 ∨ k = 2 ∨ k = 3 ∨ k = 4 ∨ k = 5 ∨ k = 6 by omega) with rfl | rfl | rfl | rfl | rfl | rfl | rfl
    · exact .nil
    · exact .bool false
    · exact .bool true
    · by_cases he : h % 2 = 0
      · simp only [toJ, he]
        exact .int _ (by omega)
      · simp only [toJ, he]
        exact .flt h he (by omega)
    · exact .str t ht
    · simp only [toJ]
      refine .arr _ (by rw [toJs_map, List.length_map]; exact hl) (fun x hx => ?_)
      rw [toJs_map, List.mem_map] at hx
      obtain ⟨y, hy, rfl⟩ := hx
      exact ihl y hy
    · simp only [toJ]
      refine .obj _ _ (by rw [toJs_map, List.length_map]; exact kv) (by rw [toJs_map, List.length_map]; exact hv) hks hkt (fun x hx => ?_)
      rw [toJs_map, List.mem_map] at hx
      obtain ⟨y, hy, rfl⟩ := hx
      exact ihv y hy

end Go.Proofs.YthggnkmlnjlggaaGreatDoor
