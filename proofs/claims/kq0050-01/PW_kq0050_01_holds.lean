import PyProof.Rows.All
import Wide.All
import OpenK.AllK
import Wide.FinOn
import KE.TryLedger
import Lean
import PySem.Challenge.RW_kq0050_01
set_option Elab.async false
section
open PySem PySem.W PyProof.Rows
namespace Mine
noncomputable def view : Program := { PySem.Challenge.pw_kq0050_01 with main := { PySem.Challenge.pw_kq0050_01.main with body := [0, 2, 4, 5, 7, 8, 9, 10, 11, 12, 19, 20, 22, 23, 24, 25, 26].filterMap fun i => PySem.Challenge.pw_kq0050_01.main.body[i]? } }
def loose : List PySem.Str := [Str.ofString "bytes_types", Str.ofString "a2b_base64", Str.ofString "b2a_base64", Str.ofString "b64encode", Str.ofString "b64decode"]
section
set_option hygiene false
local macro_rules | `(tactic| o_head $H) => `(tactic| (refine holds_open (q := Mine.view) (loose := Mine.loose) (Xt := fun s => xlAt Mine.view [] s && recOk (RowW.records (OpenRow.toRowW (OpenLaw.row PySem.Challenge.rw_kq0050_01))) s) (XP := XL Mine.view []) (Yf := Hook.obs $H) (Ya := Hook.val $H) (YP := Hook.says $H) (N := 1800) ?hl (Hook.of $H) (Hook.keeps $H) (fun s e => xl_of s (Bool.and_eq_true_iff.mp e).1) XL.keeps (by rfl) (by rfl) (by rfl) (fun s e => recFacts_of (Bool.and_eq_true_iff.mp e).2) (by rfl) (by first | assumption | decide +kernel) (by decide +kernel) ⟨rfl, rfl, rfl, rfl, rfl, by decide +kernel⟩ ?hw ?hc; (case hl => (intro w; kernel_rfl))))
set_option maxRecDepth 100000 in
set_option maxHeartbeats 8000000 in
open_top hd for PySem.Challenge.rw_kq0050_01
end
end Mine
end
section
namespace Mine
/-- the letter of a figure to the base 16 -/
def hx (k : Nat) : UInt8 := (65 + k).toUInt8
def i2ap (n : Nat) : List UInt8 := if h : n = 0 then [] else i2ap (n / 16) ++ [hx (n % 16)]
termination_by n
decreasing_by omega
theorem i2ap_zero : i2ap 0 = [] := by rw [i2ap]; rfl
theorem i2ap_pos {n : Nat} (h : n ≠ 0) : i2ap n = i2ap (n / 16) ++ [hx (n % 16)] := by rw [i2ap, dif_neg h]
end Mine
namespace Mine
/-- the number that 1 and a row's octets make -/
def rn (r : List UInt8) : Nat := r.foldl (fun a o => a * 256 + o.toNat) 1
theorem rn_snoc (r : List UInt8) (c : UInt8) : rn (r ++ [c]) = rn r * 256 + c.toNat := by simp [rn]
theorem rn_lt_aux (r : List UInt8) : ∀ a : Nat, r.foldl (fun a o => a * 256 + o.toNat) a < (a + 1) * 256 ^ r.length := by
  induction r with
  | nil => intro a; simp
  | cons c r ih =>
    intro a
    have h := ih (a * 256 + c.toNat)
    have hc := c.toNat_lt
    rw [List.foldl_cons, List.length_cons, Nat.pow_succ]
    refine Nat.lt_of_lt_of_le h ?_
    have e : (a + 1) * (256 ^ r.length * 256) = ((a + 1) * 256) * 256 ^ r.length := by rw [Nat.mul_comm (256 ^ r.length) 256, Nat.mul_assoc]
    rw [e]
    exact Nat.mul_le_mul_right _ (by omega)
theorem rn_lt (r : List UInt8) : rn r < 2 * 256 ^ r.length := rn_lt_aux r 1
/-- the letters due: B, then each octet's two figures to the base 16 -/
def two (o : UInt8) : List UInt8 := [hx (o.toNat / 16), hx (o.toNat % 16)]
def due (r : List UInt8) : List UInt8 := 66 :: r.flatMap two
theorem rn_pos (r : List UInt8) : 0 < rn r := by
  have h : ∀ (r : List UInt8) (a : Nat), 0 < a → 0 < r.foldl (fun a o => a * 256 + o.toNat) a := by
    intro r
    induction r with
    | nil => intro a h; exact h
    | cons c r ih => intro a h; rw [List.foldl_cons]; exact ih _ (by omega)
  exact h r 1 (by omega)
theorem i2ap_rn_aux : ∀ (n : Nat) (r : List UInt8), r.length = n → i2ap (rn r) = due r := by
  intro n
  induction n with
  | zero =>
    intro r h
    have := List.eq_nil_of_length_eq_zero h
    subst this
    have e : rn [] = 1 := rfl
    rw [e, i2ap_pos (by decide), i2ap_zero]
    rfl
  | succ n ih =>
    intro r h
    obtain ⟨q, c, rfl⟩ : ∃ q c, r = q ++ [c] := by
      refine ⟨r.dropLast, r.getLast (by intro e; rw [e] at h; simp at h), ?_⟩
      exact (List.dropLast_concat_getLast _).symm
    have hq : q.length = n := by simpa using h
    have hc := c.toNat_lt
    have hp := rn_pos q
    rw [rn_snoc, i2ap_pos (by omega), i2ap_pos (by omega)]
    have e1 : (rn q * 256 + c.toNat) / 16 / 16 = rn q := by omega
    have e2 : (rn q * 256 + c.toNat) / 16 % 16 = c.toNat / 16 := by omega
    have e3 : (rn q * 256 + c.toNat) % 16 = c.toNat % 16 := by omega
    rw [e1, e2, e3, ih q hq]
    simp [due, two]
theorem i2ap_rn (r : List UInt8) : i2ap (rn r) = due r := i2ap_rn_aux _ r rfl
end Mine
namespace Mine
end Mine
namespace Mine
/-- the figures to the base 16, two an octet -/
def nib (r : List UInt8) : List Nat := r.flatMap fun o => [o.toNat / 16, o.toNat % 16]
/-- three figures as two sixes of bits -/
def sx3 : List Nat → List Nat
  | x :: y :: z :: r => (x * 256 + y * 16 + z) / 64 :: (x * 256 + y * 16 + z) % 64 :: sx3 r
  | _ => []
theorem sx3_snoc : ∀ (n : Nat) (l : List Nat) (x y z : Nat), l.length = 3 * n → sx3 (l ++ [x, y, z]) = sx3 l ++ [(x * 256 + y * 16 + z) / 64, (x * 256 + y * 16 + z) % 64]
  | 0, l, x, y, z, h => by
    have := List.eq_nil_of_length_eq_zero (l := l) (by omega)
    subst this; rfl
  | n + 1, [], _, _, _, h => by simp at h
  | n + 1, [_], _, _, _, h => by simp at h; omega
  | n + 1, [_, _], _, _, _, h => by simp at h; omega
  | n + 1, a :: b :: c :: l, x, y, z, h => by
    have ih := sx3_snoc n l x y z (by simp at h; omega)
    simp only [List.cons_append, sx3, ih]
theorem nib_length (r : List UInt8) : (nib r).length = 2 * r.length := by
  induction r with
  | nil => rfl
  | cons c r ih => simp only [nib, List.flatMap_cons, List.length_append, List.length_cons, List.length_nil] at ih ⊢; omega
theorem nib_lt (r : List UInt8) : ∀ x ∈ nib r, x < 16 := by
  intro x h
  obtain ⟨o, _, ho⟩ := List.mem_flatMap.mp h
  have h2 := o.toNat_lt
  simp only [List.mem_cons, List.not_mem_nil, or_false] at ho
  omega
theorem due_eq (r : List UInt8) : due r = 66 :: (nib r).map hx := by
  simp only [due, nib, List.map_flatMap]
  rfl
theorem hx_toNat (k : Nat) (h : k < 16) : (hx k).toNat = 65 + k := by
  show (65 + k) % 256 = _
  omega
theorem due_at (r : List UInt8) (i : Nat) (h : i < 2 * r.length) : ((due r).getD (i + 1) 0).toNat = 65 + (nib r).getD i 0 := by
  have hl : i < (nib r).length := by rw [nib_length]; exact h
  rw [due_eq]
  have e1 : (66 :: (nib r).map hx).getD (i + 1) 0 = hx (nib r)[i] := by simp [hl]
  have e2 : (nib r).getD i 0 = (nib r)[i] := by simp [hl]
  rw [e1, e2]
  exact hx_toNat _ (nib_lt r _ (List.getElem_mem hl))
theorem due_length (r : List UInt8) : (due r).length = 1 + 2 * r.length := by rw [due_eq, List.length_cons, List.length_map, nib_length]; omega
/-- an octets' row, three by three, as sixes of bits -/
def six : List UInt8 → List Nat
  | a :: b :: c :: r => a.toNat / 4 :: (a.toNat % 4 * 16 + b.toNat / 16) :: (b.toNat % 16 * 4 + c.toNat / 64) :: c.toNat % 64 :: six r
  | _ => []
theorem sx3_nib : ∀ (n : Nat) (r : List UInt8), r.length = 3 * n → sx3 (nib r) = six r
  | 0, l, h => by
    have := List.eq_nil_of_length_eq_zero (l := l) (by omega)
    subst this; rfl
  | n + 1, [], h => by simp at h
  | n + 1, [_], h => by simp at h; omega
  | n + 1, [_, _], h => by simp at h; omega
  | n + 1, a :: b :: c :: r, h => by
    have ih := sx3_nib n r (by simp at h; omega)
    have ha := a.toNat_lt
    have hb := b.toNat_lt
    have hc := c.toNat_lt
    have e : nib (a :: b :: c :: r) = a.toNat / 16 :: a.toNat % 16 :: b.toNat / 16 :: b.toNat % 16 :: c.toNat / 16 :: c.toNat % 16 :: nib r := rfl
    rw [e]
    simp only [sx3, six, ih]
    congr 1
    · omega
    · congr 1
      · omega
      · congr 1
        · omega
        · congr 1; omega
end Mine
namespace Mine
/-- the sixes of bits that are out when so many octets have been read -/
def em : List UInt8 → List Nat
  | [] => []
  | [a] => [a.toNat / 4]
  | [a, b] => [a.toNat / 4, a.toNat % 4 * 16 + b.toNat / 16]
  | a :: b :: c :: r => a.toNat / 4 :: (a.toNat % 4 * 16 + b.toNat / 16) :: (b.toNat % 16 * 4 + c.toNat / 64) :: c.toNat % 64 :: em r
theorem em_six : ∀ (n : Nat) (r : List UInt8), r.length = 3 * n → em r = six r
  | 0, l, h => by
    have := List.eq_nil_of_length_eq_zero (l := l) (by omega)
    subst this; rfl
  | n + 1, [], h => by simp at h
  | n + 1, [_], h => by simp at h; omega
  | n + 1, [_, _], h => by simp at h; omega
  | n + 1, a :: b :: c :: r, h => by
    have ih := em_six n r (by simp at h; omega)
    simp only [em, six, ih]
theorem em_snoc0 : ∀ (n : Nat) (l : List UInt8) (a : UInt8), l.length = 3 * n → em (l ++ [a]) = em l ++ [a.toNat / 4]
  | 0, l, a, h => by
    have := List.eq_nil_of_length_eq_zero (l := l) (by omega)
    subst this; rfl
  | n + 1, [], a, h => by simp at h
  | n + 1, [_], a, h => by simp at h; omega
  | n + 1, [_, _], a, h => by simp at h; omega
  | n + 1, x :: y :: z :: r, a, h => by
    have ih := em_snoc0 n r a (by simp at h; omega)
    simp only [List.cons_append, em, ih]
theorem em_snoc1 : ∀ (n : Nat) (l : List UInt8) (a b : UInt8), l.length = 3 * n → em (l ++ [a] ++ [b]) = em (l ++ [a]) ++ [a.toNat % 4 * 16 + b.toNat / 16]
  | 0, l, a, b, h => by
    have := List.eq_nil_of_length_eq_zero (l := l) (by omega)
    subst this; rfl
  | n + 1, [], a, b, h => by simp at h
  | n + 1, [_], a, b, h => by simp at h; omega
  | n + 1, [_, _], a, b, h => by simp at h; omega
  | n + 1, x :: y :: z :: r, a, b, h => by
    have ih := em_snoc1 n r a b (by simp at h; omega)
    simp only [List.cons_append, em, ih]
theorem em_snoc2 : ∀ (n : Nat) (l : List UInt8) (a b c : UInt8), l.length = 3 * n → em (l ++ [a] ++ [b] ++ [c]) = em (l ++ [a] ++ [b]) ++ [b.toNat % 16 * 4 + c.toNat / 64] ++ [c.toNat % 64]
  | 0, l, a, b, c, h => by
    have := List.eq_nil_of_length_eq_zero (l := l) (by omega)
    subst this; rfl
  | n + 1, [], a, b, c, h => by simp at h
  | n + 1, [_], a, b, c, h => by simp at h; omega
  | n + 1, [_, _], a, b, c, h => by simp at h; omega
  | n + 1, x :: y :: z :: r, a, b, c, h => by
    have ih := em_snoc2 n r a b c (by simp at h; omega)
    simp only [List.cons_append, em, ih]
theorem em_length (l : List UInt8) : (em l).length ≤ 2 * l.length := by
  have h : ∀ (n : Nat) (l : List UInt8), l.length ≤ n → (em l).length ≤ 2 * l.length := by
    intro n
    induction n using Nat.strongRecOn with
    | ind n ih =>
      intro l hl
      match l, hl with
      | [], _ => simp [em]
      | [_], _ => simp [em]
      | [_, _], _ => simp [em]
      | a :: b :: c :: r, hl =>
        have h2 := ih (n - 3) (by simp at hl; omega) r (by simp at hl; omega)
        simp only [em, List.length_cons]; omega
  exact h _ l (Nat.le_refl _)
end Mine
namespace Mine
/-- the octets that are out when so many sixes of bits have been read -/
def dq : List Nat → List Nat
  | [] => []
  | [_] => []
  | [x, y] => [x * 4 + y / 16]
  | [x, y, z] => [x * 4 + y / 16, y % 16 * 16 + z / 4]
  | x :: y :: z :: u :: r => (x * 4 + y / 16) :: (y % 16 * 16 + z / 4) :: (z % 4 * 64 + u) :: dq r
theorem len4 {α : Type} {P : List α → Prop} (h0 : P []) (hs : ∀ x y z u r, P r → P (x :: y :: z :: u :: r)) : ∀ (n : Nat) (l : List α), l.length = 4 * n → P l
  | 0, l, h => by
    have := List.eq_nil_of_length_eq_zero (l := l) (by omega)
    subst this; exact h0
  | n + 1, [], h => by simp at h
  | n + 1, [_], h => by simp at h; omega
  | n + 1, [_, _], h => by simp at h; omega
  | n + 1, [_, _, _], h => by simp at h; omega
  | n + 1, x :: y :: z :: u :: r, h => hs x y z u r (len4 h0 hs n r (by simp at h; omega))
theorem dq_snoc0 (n : Nat) (l : List Nat) (h : l.length = 4 * n) (x : Nat) : dq (l ++ [x]) = dq l :=
  len4 (P := fun l => dq (l ++ [x]) = dq l) rfl (fun a b c d r ih => by simp only [List.cons_append, dq, ih]) n l h
theorem dq_snoc1 (n : Nat) (l : List Nat) (h : l.length = 4 * n) (x y : Nat) : dq (l ++ [x] ++ [y]) = dq (l ++ [x]) ++ [x * 4 + y / 16] :=
  len4 (P := fun l => dq (l ++ [x] ++ [y]) = dq (l ++ [x]) ++ [x * 4 + y / 16]) rfl (fun a b c d r ih => by simp only [List.cons_append, dq, ih]) n l h
theorem dq_snoc2 (n : Nat) (l : List Nat) (h : l.length = 4 * n) (x y z : Nat) : dq (l ++ [x] ++ [y] ++ [z]) = dq (l ++ [x] ++ [y]) ++ [y % 16 * 16 + z / 4] :=
  len4 (P := fun l => dq (l ++ [x] ++ [y] ++ [z]) = dq (l ++ [x] ++ [y]) ++ [y % 16 * 16 + z / 4]) rfl (fun a b c d r ih => by simp only [List.cons_append, dq, ih]) n l h
theorem dq_snoc3 (n : Nat) (l : List Nat) (h : l.length = 4 * n) (x y z u : Nat) : dq (l ++ [x] ++ [y] ++ [z] ++ [u]) = dq (l ++ [x] ++ [y] ++ [z]) ++ [z % 4 * 64 + u] :=
  len4 (P := fun l => dq (l ++ [x] ++ [y] ++ [z] ++ [u]) = dq (l ++ [x] ++ [y] ++ [z]) ++ [z % 4 * 64 + u]) rfl (fun a b c d r ih => by simp only [List.cons_append, dq, ih]) n l h
theorem dq_six : ∀ (n : Nat) (r : List UInt8), r.length = 3 * n → dq (six r) = r.map UInt8.toNat
  | 0, l, h => by
    have := List.eq_nil_of_length_eq_zero (l := l) (by omega)
    subst this; rfl
  | n + 1, [], h => by simp at h
  | n + 1, [_], h => by simp at h; omega
  | n + 1, [_, _], h => by simp at h; omega
  | n + 1, a :: b :: c :: r, h => by
    have ih := dq_six n r (by simp at h; omega)
    have ha := a.toNat_lt
    have hb := b.toNat_lt
    have hc := c.toNat_lt
    simp only [six, dq, ih, List.map_cons]
    have e1 : a.toNat / 4 * 4 + (a.toNat % 4 * 16 + b.toNat / 16) / 16 = a.toNat := by omega
    have e2 : (a.toNat % 4 * 16 + b.toNat / 16) % 16 * 16 + (b.toNat % 16 * 4 + c.toNat / 64) / 4 = b.toNat := by omega
    have e3 : (b.toNat % 16 * 4 + c.toNat / 64) % 4 * 64 + c.toNat % 64 = c.toNat := by omega
    rw [e1, e2, e3]
theorem six_lt : ∀ (n : Nat) (r : List UInt8), r.length = 3 * n → ∀ k ∈ six r, k < 64
  | 0, l, h => by
    have := List.eq_nil_of_length_eq_zero (l := l) (by omega)
    subst this; intro k hk; cases hk
  | n + 1, [], h => by simp at h
  | n + 1, [_], h => by simp at h; omega
  | n + 1, [_, _], h => by simp at h; omega
  | n + 1, a :: b :: c :: r, h => by
    have ih := six_lt n r (by simp at h; omega)
    have ha := a.toNat_lt
    have hb := b.toNat_lt
    have hc := c.toNat_lt
    intro k hk
    simp only [six, List.mem_cons] at hk
    rcases hk with rfl | rfl | rfl | rfl | hk
    · omega
    · omega
    · omega
    · omega
    · exact ih k hk
theorem dq_length : ∀ (n : Nat) (l : List Nat), l.length ≤ n → (dq l).length ≤ l.length := by
  intro n
  induction n using Nat.strongRecOn with
  | ind n ih =>
    intro l hl
    match l, hl with
    | [], _ => simp [dq]
    | [_], _ => simp [dq]
    | [_, _], _ => simp [dq]
    | [_, _, _], _ => simp [dq]
    | x :: y :: z :: u :: r, hl =>
      have h2 := ih (n - 4) (by simp at hl; omega) r (by simp at hl; omega)
      simp only [dq, List.length_cons]; omega
end Mine
end
section
open PySem PySem.W PySem.Calls PyProof.Rows
set_option maxRecDepth 100000
namespace Mine
abbrev PR : Program := PySem.Challenge.rw_kq0050_01.row.prog

/-- the surroundings of a contract: nothing is being handled -/
abbrev MA (dp un : Nat) (fr : Option (List Env)) (gd : Option (List Code)) : Around := { handled := none, depth := dp, frames := fr, guards := gd, units := un }

/-- what every contract hands on: the heap has only grown -/
abbrev Ret (s : Shared) (Q : Value → Shared → Prop) (v : Tok → Value) : Prop :=
  ∀ (t : Tok) (h' : Heap) (tk : Nat), s.heap.StaysIn h' → Q (v t) { s with heap := h', toks := tk }

theorem call_my {w : World} {K : Frag} {p : Program} {loose : List Str} {mean : ExcName → Option Value} {mg mb : Str → Option Value} {A : Around} {E Q : Value → Shared → Prop} {s : Shared}
    {name qual : Str} {params : Arguments} {body : List Stmt} {scope : Scope} {dV kV doc pm cdv ct oc : Value} {an od : Option Addr} {osl : Array (Option Value)} {f : Addr} {pos : List Value} {kw : List (Str × Value)} {binds : List (Str × Value)}
    (X : K.In s.heap) (T : Top p loose mean mg mb s.heap)
    (ho : K.lookup f = some ⟨oc, od, .func (fnOf name qual params body scope dV kV doc pm an cdv ct), osl⟩) (hcd : codeIn K cdv qual = true) (hroom : A.depth < recursionLimit)
    (hbind : BindsTo s (fnOf name qual params body scope dV kV doc pm an cdv ct) ⟨pos, kw⟩ binds) (hloc : ∀ y ∈ binds, scope.names.lookup y.1 = some .local)
    (h : ∀ L h₁ tk₁, Fr s.heap L h₁ (fun y => binds.reverse.lookup y) → News s.heap L h₁ [] →
      wpAny (model PR w) (A.deeper (envX qual scope L f cdv [])) (execs body (envX qual scope L f cdv []))
        (fun fl s' => Q (match fl with | .ret v => v | _ => .none) s') (fun _ _ => False) { s with heap := h₁, toks := tk₁ })
    (hco : scope.isCoroutine = false) (hgen : scope.isGenerator = false) (hk : scope.kind = .function) (hcell : ∀ x ∈ scope.names, x.2 ≠ .cell) :
    wpAny (model PR w) A (call (.ref f) pos kw) Q E s := by
  refine wpAny_call ?_
  refine codeAny_call_def (fd := fnX name qual params body scope [] dV kV doc pm an cdv ct) (body := body) (binds := binds) hroom (X _ _ ho) rfl T.nolimit (codeRec_of X hcd) rfl hbind hcell hloc (fun h₁ hns hk₁ => ?_) hco hgen hk
  exact wpAny_mono (h s.heap.objs.size h₁ _ ⟨hns, hk₁, Nat.le_refl _⟩ News.nil) (fun _ _ x => x) (fun _ _ x => x.elim)

theorem call_myC {w : World} {K : Frag} {p : Program} {loose : List Str} {mean : ExcName → Option Value} {mg mb : Str → Option Value} {A : Around} {E Q : Value → Shared → Prop} {s : Shared}
    {name qual : Str} {params : Arguments} {body : List Stmt} {scope : Scope} {dV kV doc pm cdv ct oc : Value} {an od : Option Addr} {osl : Array (Option Value)} {f : Addr} {pos : List Value} {kw : List (Str × Value)} {binds : List (Str × Value)}
    (X : K.In s.heap) (T : Top p loose mean mg mb s.heap)
    (ho : K.lookup f = some ⟨oc, od, .func (fnOf name qual params body scope dV kV doc pm an cdv ct), osl⟩) (hcd : codeIn K cdv qual = true) (hroom : A.depth < recursionLimit)
    (hbind : BindsTo s (fnOf name qual params body scope dV kV doc pm an cdv ct) ⟨pos, kw⟩ binds)
    (hkind : (binds.all fun y => scope.names.lookup y.1 == some .local || scope.names.lookup y.1 == some .cell) = true)
    (hnd : ((cellsFrom 0 scope.names []).map (·.1)).Nodup)
    (h : ∀ L h₁ tk₁ cells, Fr s.heap L h₁ (bindL (envOfC qual scope L f cdv).kindOf binds fun _ => none) → News s.heap L h₁ cells →
      CellsAre (bindC (envOfC qual scope L f cdv).kindOf binds fun _ => none) (cellsFrom (L + 1) scope.names []) cells → s.heap.objs.size = L →
      wpAny (model PR w) (A.deeper (envOfC qual scope L f cdv)) (execs body (envOfC qual scope L f cdv))
        (fun fl s' => Q (match fl with | .ret v => v | _ => .none) s') (fun _ _ => False) { s with heap := h₁, toks := tk₁ })
    (hco : scope.isCoroutine = false) (hgen : scope.isGenerator = false) (hk : scope.kind = .function) :
    wpAny (model PR w) A (call (.ref f) pos kw) Q E s := by
  refine wpAny_call ?_
  refine codeAny_call_function hroom (X _ _ ho) rfl hco hgen rfl (codeRec_of X hcd) (hbind _ _ _ _ ?_)
  refine wpAny_newFunctionEnv_cells hk (kindsX hkind _) fun env' he s' x => ?_
  subst he
  refine ⟨T.nolimit.keeps x.toInCall.keep, codeAny_func ?_⟩
  obtain ⟨h₁, tk, rfl, _⟩ := x.done
  have hk₁ := x.toInCall.keep
  obtain ⟨cells, NC, Y⟩ := Cl.news (h₀ := s.heap) (Nat.le_refl _) fun n c hm => ⟨x.cell n c (lookup_of_mem_nodup (cellsFrom_names scope.names 0 (s.heap.objs.size + 1) [] [] rfl ▸ hnd) hm), x.above n c hm⟩
  exact wpAny_mono (h s.heap.objs.size h₁ tk cells ⟨x.toInCall.ns, hk₁, Nat.le_refl _⟩ NC Y rfl) (fun _ _ x => x) (fun _ _ x => x.elim)

/-- the two names that the library's filling looks for -/
def KF {α β : Type} (_ : α) (_ : β) (P : Prop) : Prop := P
theorem KF.to {α β : Type} {a : α} {b : β} {P : Prop} (h : KF a b P) : P := h
theorem KF.of {α β : Type} {a : α} {b : β} {P : Prop} (h : P) : KF a b P := h

theorem look_skip {x y : Str} {a r v : Option Value} (h : y ≠ x) (hm : r = v) : (if y = x then a else r) = v := by rw [if_neg h]; exact hm
def IntAt (m : Str → Option Value) (x : Str) (k : Int) : Prop := ∃ t, m x = some (.int k t)
def BytesAt (m : Str → Option Value) (x : Str) (v : List UInt8) : Prop := ∃ t, m x = some (.bytes v.toArray t)
def StrAt (m : Str → Option Value) (x : Str) (v : Str) : Prop := ∃ t, m x = some (.str v t)
theorem IntAt.of {m : Str → Option Value} {x : Str} {k e : Int} {t : Tok} (h : m x = some (.int e t)) (he : e = k) : IntAt m x k := ⟨t, he ▸ h⟩
theorem BytesAt.of {m : Str → Option Value} {x : Str} {v : List UInt8} {e : Array UInt8} {t : Tok} (h : m x = some (.bytes e t)) (he : e = v.toArray) : BytesAt m x v := ⟨t, he ▸ h⟩
theorem StrAt.of {m : Str → Option Value} {x : Str} {v e : Str} {t : Tok} (h : m x = some (.str e t)) (he : e = v) : StrAt m x v := ⟨t, he ▸ h⟩
theorem look_here {x : Str} {a r : Option Value} : (if x = x then a else r) = a := if_pos rfl

section
variable {w : World} {A : Around} {E : Value → Shared → Prop} {s : Shared} {env : Env} {h₀ : Heap} {x : Str} {body : List Stmt} {Q : Flow → Shared → Prop} {m₀ : Str → Option Value} {news : List (Addr × Obj)}

/-- a turn's end of a while, by an invariant and a measure -/
def WEnd (C : Nat → Shared → Prop) (n : Nat) (Q : Flow → Shared → Prop) (f : Flow) (s₃ : Shared) : Prop :=
  match f with
  | .brk => Q .next s₃
  | .ret v => Q (.ret v) s₃
  | _ => ∃ m, m < n ∧ C m s₃
theorem while_ind {test : PySem.Expr} {orelse : List Stmt} {pos : Pos} (C : Nat → Shared → Prop) (n : Nat) (h : C n s)
    (turn : ∀ n s', C n s' → wpAny (model PR w) A (isTrue test env (eval test env)) (fun b s₂ => WhlIf b (wpAny (model PR w) A (execs body env) (WEnd C n Q) E s₂) (wpAny (model PR w) A (execs orelse env) Q E s₂)) E s')
    (hE : PassesOwn (model PR w) A env E) :
    wpAny (model PR w) A (exec (.While test body orelse pos) env) Q E s := by
  refine whl_start 0 ?_
  induction n using Nat.strongRecOn generalizing s with
  | ind n ih =>
    refine whl_turn (k := 0) hE (wpAny_mono (turn n s h) (fun b s₂ h₂ => ?_) fun _ _ e => e)
    cases b with
    | false => exact WhlIf.no rfl h₂
    | true =>
      refine WhlIf.yes rfl (wpAny_mono (h₂ : wpAny _ _ _ _ _ _) (fun f s₃ h₃ => ?_) fun _ _ e => e)
      cases f with
      | next => obtain ⟨m, hm, hc⟩ := h₃; exact ih m hm hc
      | cont => obtain ⟨m, hm, hc⟩ := h₃; exact ih m hm hc
      | brk => exact h₃
      | ret v => exact h₃

theorem for_bytes {b : Array UInt8} {tb : Tok} (J : Nat → (Str → Option Value) → List (Addr × Obj) → Prop)
    (hh : A.handled = none) (F : Fr h₀ env.locals s.heap m₀) (N : News h₀ env.locals s.heap news) (hj : J 0 m₀ news)
    (turn : ∀ i (c : UInt8) t m₁ nx h tk own, b[i]? = some c → OwnOff own (nx.map (·.1)) → J i m₁ nx → Fr h₀ env.locals h (fun y => if y = x then some (.int (c.toNat : Int) t) else m₁ y) → News h₀ env.locals h (nx ++ own) →
      wpAny (model PR w) A (execs body env) (InvPostG h₀ env.locals (J (i + 1)) own { s with heap := h, toks := tk } Q) E { s with heap := h, toks := tk })
    (done : ∀ m₁ nx h tk, J b.size m₁ nx → Fr h₀ env.locals h m₁ → News h₀ env.locals h nx → Q .next { s with heap := h, toks := tk }) :
    wpAny (model PR w) A (pyIter (.bytes b tb)) (fun it s₂ => LoopAtV PR w A h₀ env x body Q E it s₂) E s := by
  refine KBw.pyIter_bytes ?_
  have W := KBw.walks (prog := PR) (w := w) hh s.heap.objs.size b tb
  refine kdr_loop J W (fun _ h => h) (fun _ h => h) ?_ ?_ ?_ ?_ ⟨_, Heap.get?_push_size _ rfl, rfl, rfl⟩ (F.push _) (fun p hp => ⟨Heap.get?_push_of_some _ (N p hp).1, (N p hp).2⟩) hj ?_ ?_
  · rintro i h ⟨o, ho, _⟩ b hb
    rw [List.mem_singleton.mp hb]
    exact ⟨_, ho⟩
  · intro hm
    exact absurd F.ns.lt ((List.mem_singleton.mp hm) ▸ Nat.lt_irrefl _)
  · intro b hb
    rw [List.mem_singleton.mp hb]
    exact next_is_new F
  · intro p hp hI
    exact absurd (Heap.lt_size (N p hp).1) ((List.mem_singleton.mp hI) ▸ Nat.lt_irrefl _)
  · rintro i v m₁ nx h tk own _ ⟨c, u, hc, rfl⟩ hoff hJ F₁ N₁
    exact turn i c u m₁ nx h tk own hc hoff hJ F₁ N₁
  · intro m₁ nx h tk hJ F₁ N₁
    exact done m₁ nx h tk hJ F₁ N₁
end

theorem inv_nil {h₀ : Heap} {L : Addr} {J : (Str → Option Value) → List (Addr × Obj) → Prop} {m' : Str → Option Value} {own : List (Addr × Obj)} {s₁ : Shared} {h' : Heap} {tk : Nat} (F : Fr h₀ L h' m') (N : News h₀ L h' own) (hj : J m' []) :
    InvEndG h₀ L J own s₁ { s₁ with heap := h', toks := tk } := InvEndG.intro (nx := []) F N hj (fun _ _ _ hb => nomatch hb) (fun _ hp => nomatch hp) fun _ hp => hp

section
variable {w : World} {A : Around} {E : Value → Shared → Prop} {s : Shared} {env : Env} {h₀ : Heap} {x : Str} {body : List Stmt} {Q : Flow → Shared → Prop} {m₀ : Str → Option Value} {news : List (Addr × Obj)}
theorem for_range {r : Addr} {a b c : Int} {t u v : Tok} {n : Nat} (J : Nat → (Str → Option Value) → List (Addr × Obj) → Prop)
    (hh : A.handled = none) (hr : IsRange s.heap r a b c t u v) (hsmall : Builtin.Range.small a b c = true) (hsz : Builtin.Range.rangeSize a b c = (n : Int)) (F : Fr h₀ env.locals s.heap m₀) (N : News h₀ env.locals s.heap news) (hj : J 0 m₀ news)
    (turn : ∀ (i : Nat) t m₁ nx h tk own, i < n → OwnOff own (nx.map (·.1)) → J i m₁ nx → Fr h₀ env.locals h (fun y => if y = x then some (.int (a + i * c) t) else m₁ y) → News h₀ env.locals h (nx ++ own) →
      wpAny (model PR w) A (execs body env) (InvPostG h₀ env.locals (J (i + 1)) own { s with heap := h, toks := tk } Q) E { s with heap := h, toks := tk })
    (done : ∀ m₁ nx h tk, J n m₁ nx → Fr h₀ env.locals h m₁ → News h₀ env.locals h nx → Q .next { s with heap := h, toks := tk }) :
    wpAny (model PR w) A (pyIter (.ref r)) (fun it s₂ => LoopAtV PR w A h₀ env x body Q E it s₂) E s := by
  refine wpAny_pyIter_range hr hsmall ?_
  have W := (Walks.range (prog := PR) (w := w) hh s.heap.objs.size a c n).bound
  refine kdr_loop J W (fun _ h => h) (fun _ h => h) ?_ ?_ ?_ ?_ (by show IsRangeIter _ _ _ _ _; rw [hsz]; simpa using Heap.get?_push_size _ rfl) (F.push _) (fun p hp => ⟨Heap.get?_push_of_some _ (N p hp).1, (N p hp).2⟩) hj ?_ ?_
  · intro i h hi b hb
    rw [List.mem_singleton.mp hb]
    exact ⟨_, hi⟩
  · intro hm
    exact absurd F.ns.lt ((List.mem_singleton.mp hm) ▸ Nat.lt_irrefl _)
  · intro b hb
    rw [List.mem_singleton.mp hb]
    exact next_is_new F
  · intro p hp hI
    exact absurd (Heap.lt_size (N p hp).1) ((List.mem_singleton.mp hI) ▸ Nat.lt_irrefl _)
  · rintro i v m₁ nx h tk own hi ⟨_, t, rfl⟩ hoff hJ F₁ N₁
    exact turn i t m₁ nx h tk own hi hoff hJ F₁ N₁
  · intro m₁ nx h tk hJ F₁ N₁
    exact done m₁ nx h tk hJ F₁ N₁
end

theorem inv_one {h₀ : Heap} {L D : Addr} {o : Obj} {J : (Str → Option Value) → List (Addr × Obj) → Prop} {m' : Str → Option Value} {own : List (Addr × Obj)} {s₁ : Shared} {h' : Heap} {tk : Nat} (F : Fr h₀ L h' m') (N : News h₀ L h' ((D, o) :: own)) (hoff : OwnOff own [D]) (hj : J m' [(D, o)]) :
    InvEndG h₀ L J own s₁ { s₁ with heap := h', toks := tk } := InvEndG.intro (nx := [(D, o)]) F N hj hoff (fun _ hp => List.mem_singleton.mp hp ▸ List.Mem.head _) fun _ hp => List.Mem.tail _ hp
end Mine
end
section
open PySem PySem.W PySem.Calls PyProof.Rows
set_option maxRecDepth 100000
namespace Mine
open Builtin Builtin.Bytes
theorem slot_blt : Slot "bytes" (cmpInfo .Lt).2.1 "bytes.__lt__" :=
  .of (owner := "bytes") (n := "__lt__") (by rw [typeLookup_type, builtinLookup_eq_fast]; kernel_rfl) (by decide +kernel) (by decide +kernel) (by decide +kernel)
    (by first | exact .inl (by decide +kernel) | exact .inr (by decide +kernel)) (by rw [isSubtype_type]; kernel_rfl)
theorem entry_blt : entryFor table "bytes.__lt__" = some Builtin.«bytes.__lt__» := entryFor_of_tree (by kernel_rfl)
theorem args_blt (a b : Value) : argsOk "bytes.__lt__" ⟨[a, b], []⟩ := by
  unfold argsOk; rw [signature?_of (id := "bytes.__lt__") (n := ['_', '_', 't', 'l', '_', '_']) (o := ['s', 'e', 't', 'y', 'b']) (by kernel_rfl) FB.owner_bytes]; kernel_rfl
theorem slot_bgt : Slot "bytes" (cmpInfo .Gt).2.1 "bytes.__gt__" :=
  .of (owner := "bytes") (n := "__gt__") (by rw [typeLookup_type, builtinLookup_eq_fast]; kernel_rfl) (by decide +kernel) (by decide +kernel) (by decide +kernel)
    (by first | exact .inl (by decide +kernel) | exact .inr (by decide +kernel)) (by rw [isSubtype_type]; kernel_rfl)
theorem entry_bgt : entryFor table "bytes.__gt__" = some Builtin.«bytes.__gt__» := entryFor_of_tree (by kernel_rfl)
theorem args_bgt (a b : Value) : argsOk "bytes.__gt__" ⟨[a, b], []⟩ := by
  unfold argsOk; rw [signature?_of (id := "bytes.__gt__") (n := ['_', '_', 't', 'g', '_', '_']) (o := ['s', 'e', 't', 'y', 'b']) (by kernel_rfl) FB.owner_bytes]; kernel_rfl
theorem gives_blt (b c : List UInt8) (t u : Tok) : Gives («bytes.__lt__» ⟨[.bytes b.toArray t, .bytes c.toArray u], []⟩) (.val (.bool (order b c == .lt))) := by
  refine .of_wp fun M A E s Q hq => ?_
  show wpAny M A (isInstance (.bytes c.toArray u) (.type "bytes") >>= fun r => _) _ E s
  refine wpAny_bind (wpAny_isInstance (typeIs_bytes s c.toArray u) F.sub_bytes_bytes ?_)
  exact wpAny_pure ⟨_, rfl, hq⟩
theorem gives_bgt (b c : List UInt8) (t u : Tok) : Gives («bytes.__gt__» ⟨[.bytes b.toArray t, .bytes c.toArray u], []⟩) (.val (.bool (order b c == .gt))) := by
  refine .of_wp fun M A E s Q hq => ?_
  show wpAny M A (isInstance (.bytes c.toArray u) (.type "bytes") >>= fun r => _) _ E s
  refine wpAny_bind (wpAny_isInstance (typeIs_bytes s c.toArray u) F.sub_bytes_bytes ?_)
  exact wpAny_pure ⟨_, rfl, hq⟩
/-- what three_way_cmp gives -/
def cmpInt (x y : List UInt8) : Int := b2i (order x y == .gt) - b2i (order x y == .lt)
section
variable {prog : Program} {w : World} {A : Around} {E Q : Value → Shared → Prop} {s : Shared} {b c : List UInt8} {t u : Tok}
theorem lt_B (h : Q (.bool (order b c == .lt)) s) : wpAny (model prog w) A (compareOp .Lt (.bytes b.toArray t) (.bytes c.toArray u)) Q E s :=
  compareOp_gives (op := .Lt) (typeIs_bytes s _ t) (typeIs_bytes s _ u) slot_blt entry_blt (args_blt _ _) (gives_blt b c t u) (fun e => nomatch e) h
theorem gt_B (h : Q (.bool (order b c == .gt)) s) : wpAny (model prog w) A (compareOp .Gt (.bytes b.toArray t) (.bytes c.toArray u)) Q E s :=
  compareOp_gives (op := .Gt) (typeIs_bytes s _ t) (typeIs_bytes s _ u) slot_bgt entry_bgt (args_bgt _ _) (gives_bgt b c t u) (fun e => nomatch e) h
theorem eq_B (h : Q (.bool (b == c)) s) : wpAny (model prog w) A (compareOp .Eq (.bytes b.toArray t) (.bytes c.toArray u)) Q E s :=
  eq_bytes h
end
end Mine
end
section
open PySem PySem.W PySem.Calls PyProof.Rows
set_option maxRecDepth 100000
namespace Mine
open Builtin Builtin._codecs
theorem fold_ascii (l : List Nat) (acc : Array UInt8) : l.foldl (fun acc y => acc ++ (asciiCodec.bytesOf y).toArray) acc = acc ++ (l.map (·.toUInt8)).toArray := by
  induction l generalizing acc with
  | nil => simp
  | cons x l ih => rw [List.foldl_cons, ih]; simp [asciiCodec]
theorem narrow {id : String} {self : Value} {s : Str} (hall : ∀ c ∈ s.cps, c < 128) (hsz : s.cps.size ≤ sizeLine) : encodeNarrow id asciiCodec none self s = pure (s.cps.map (·.toUInt8)) := by
  unfold encodeNarrow
  simp only [Std.Legacy.Range.forIn_eq_forIn_range', Std.Legacy.Range.size, Nat.sub_zero, Nat.add_sub_cancel, Nat.div_one]
  have hn : s.length = s.cps.size := rfl
  rw [hn]
  cases hs : s.cps.size with
  | zero =>
    have : s.cps = #[] := Array.eq_empty_of_size_eq_zero hs
    rw [this]; simp
  | succ k =>
    have h0 : s.cps[0]? = some s.cps[0] := by simp
    have hb : ∀ c ∈ s.cps, asciiCodec.bad c = false := fun c hc => by simp [asciiCodec, hall c hc]
    have hf : Array.findIdx? asciiCodec.bad (s.cps.extract 0 (k + 1)) = none := by
      rw [Array.findIdx?_eq_none_iff]
      intro c hc
      exact hb c (by rw [show s.cps.extract 0 (k + 1) = s.cps by rw [← hs]; simp] at hc; exact hc)
    have hx : s.cps.extract 0 (k + 1) = s.cps := by rw [← hs]; simp
    have hout : Array.foldl (fun acc y => acc ++ (asciiCodec.bytesOf y).toArray) #[] s.cps = s.cps.map (·.toUInt8) := by
      rw [← Array.foldl_toList, fold_ascii]; apply Array.ext'; simp
    have hn0 : s.cps[k + 1]? = none := by simp [hs]
    rw [List.range'_succ, List.forIn_cons]
    dsimp only
    rw [if_neg (by decide), h0]
    dsimp only
    rw [if_pos (by simp [hb _ (Array.getElem_mem (by omega : 0 < s.cps.size))]), hf, hx]
    simp only [Option.getD_none, hs, Nat.zero_add]
    have hx2 : s.cps.extract 0 (k + 1) = s.cps := hx
    rw [hx2, hout]
    cases k with
    | zero => rfl
    | succ k =>
      rw [List.range'_succ]
      rw [pure_bind]
      dsimp only
      rw [List.forIn_cons]
      dsimp only
      rw [if_neg (by simp; omega), hn0]
      rfl

theorem enc_eq {x : Str} {t u : Tok} : Builtin.«str.encode» ⟨[.str x t, .str (Str.ofString "ascii") u], []⟩ = ((encodeNarrow "str.encode" asciiCodec none (.str x t) x >>= fun b => mkBytes b) >>= fun v => ret v) := by kernel_rfl
theorem meets_enc {x : Str} {t u : Tok} (hall : ∀ c ∈ x.cps, c < 128) (hsz : x.cps.size ≤ sizeLine) :
    Meets (Builtin.«str.encode» ⟨[.str x t, .str (Str.ofString "ascii") u], []⟩) (fun _ R s => ∀ t' k, R (.ok (.ret (.bytes (x.cps.map (·.toUInt8)) t'))) { s with toks := k }) := by
  refine .of_wp fun prog w A R s h => ?_
  rw [enc_eq, narrow hall hsz]
  refine wpAny_bind (wpAny_bind (wpAny_pure ?_))
  unfold mkBytes
  rw [if_neg (by simpa using hsz)]
  refine wpAny_bind (wpAny_fresh (wpAny_pure ?_))
  exact wpAny_pure ⟨_, rfl, h _ _⟩
theorem encode_ascii {prog : Program} {w : World} {A : Around} {E Q : Value → Shared → Prop} {s : Shared} {x : Str} {t u : Tok} (hall : ∀ c ∈ x.cps, c < 128) (hsz : x.cps.size ≤ sizeLine)
    (h : ∀ t' k, Q (.bytes (x.cps.map (·.toUInt8)) t') { s with toks := k }) : wpAny (model prog w) A (call (.builtin "str.encode") [.str x t, .str (Str.ofString "ascii") u]) Q E s :=
  call_meets PySem.F.slot_str_encode (typeIs_str _ _ _) PySem.F.entry_str_encode (PySem.F.args_str_encode_2 _ _) (meets_enc hall hsz) h
end Mine
end
section
open PySem PySem.W PySem.Calls PyProof.Rows
set_option maxRecDepth 100000
namespace Mine
/-- an octet's two letters, as a text -/
def twoS (c : UInt8) : Str := ⟨#[65 + c.toNat / 16, 65 + c.toNat % 16]⟩
/-- what is iterated, as pyIter finds it -/
structure Src (w : World) (A : Around) (h : Heap) (xv : Value) (n : Nat) (P : Nat → Value → Prop) : Prop where
  go : ∀ (s : Shared) (E Q : Value → Shared → Prop), s.heap = h →
    (∀ I fp wr St h₂, Walks PR w A I fp wr n P St → St 0 h₂ → (∀ b ∈ fp, b < h₂.objs.size) → h.StaysIn h₂ → (∀ b ∈ wr, h.get? b = none) → (∀ i h, St i h → ∀ b ∈ wr, ∃ o, h.get? b = some o) → h.objs.size ≤ h₂.objs.size → Q (.ref I) { s with heap := h₂ }) →
    wpAny (model PR w) A (pyIter xv) Q E s

theorem none_at {h : Heap} {a : Addr} (ha : h.objs.size ≤ a) : h.get? a = none := by
  cases e : h.get? a with
  | none => rfl
  | some o => exact absurd (Heap.lt_size e) (Nat.not_lt.mpr ha)

theorem src_bytes {w : World} {A : Around} {h : Heap} {b : Array UInt8} {tb : Tok} (hh : A.handled = none) :
    Src w A h (.bytes b tb) b.size (fun i v => ∃ c u, b[i]? = some c ∧ v = .int ((c.toNat : Nat) : Int) u) := ⟨by
  rintro s E Q rfl hQ
  refine KBw.pyIter_bytes ?_
  refine hQ s.heap.objs.size _ _ _ _ (KBw.walks hh s.heap.objs.size b tb) ⟨_, Heap.get?_push_size _ rfl, rfl, rfl⟩ ?_ (fun b o e => Heap.get?_push_of_some _ e) ?_ ?_ (by rw [Heap.size_push]; exact Nat.le_succ _)
  · intro b hb
    rw [List.mem_singleton.mp hb, Heap.size_push]; exact Nat.lt_succ_self _
  · intro b hb
    rw [List.mem_singleton.mp hb]; exact none_at (Nat.le_refl _)
  · rintro i h ⟨o, ho, _⟩ b hb
    rw [List.mem_singleton.mp hb]; exact ⟨_, ho⟩⟩
theorem src_list {w : World} {A : Around} {h : Heap} {l : Addr} {vs : List Value} (hh : A.handled = none) (hl : h.IsList l vs.toArray) :
    Src w A h (.ref l) vs.length (fun i v => vs[i]? = some v) := ⟨by
  rintro s E Q rfl hQ
  have hlt : l < s.heap.objs.size := by obtain ⟨_, e, _⟩ := hl; exact Heap.lt_size e
  refine wpAny_pyIter_list hl ?_
  have W := Walks.list (prog := PR) (w := w) hh s.heap.objs.size l (Nat.ne_of_lt hlt) vs.toArray
  have hlen : vs.toArray.size = vs.length := by simp
  rw [hlen] at W
  have W' : Walks PR w A s.heap.objs.size [s.heap.objs.size, l] [s.heap.objs.size] vs.length (fun i v => vs[i]? = some v) (fun i h => h.IsListIter s.heap.objs.size l i ∧ h.IsList l vs.toArray) := by simpa using W
  refine hQ s.heap.objs.size _ _ _ _ W' ⟨⟨_, Heap.get?_push_size _ rfl, rfl, rfl⟩, hl.push _⟩ ?_ (fun b o e => Heap.get?_push_of_some _ e) ?_ ?_ (by rw [Heap.size_push]; exact Nat.le_succ _)
  · intro b hb
    rw [Heap.size_push]
    rcases List.mem_cons.mp hb with rfl | hb
    · exact Nat.lt_succ_self _
    · rw [List.mem_singleton.mp hb]; exact Nat.lt_succ_of_lt hlt
  · intro b hb
    rw [List.mem_singleton.mp hb]; exact none_at (Nat.le_refl _)
  · rintro i h ⟨⟨o, ho, _⟩, _⟩ b hb
    rw [List.mem_singleton.mp hb]; exact ⟨_, ho⟩⟩

abbrev lcTests (ifs : List PySem.Expr) (cenv : Env) : Sem Bool := forIn ifs true fun c r => if r = true then do let ok ← isTrue c cenv (eval c cenv); pure (ForInStep.yield ok) else pure (ForInStep.yield r)

section
variable {w : World} {A : Around} {E : Value → Shared → Prop} {s : Shared} {env : Env} {elt iter : PySem.Expr} {x y : Str} {px py pos spos : Pos} {ifs : List PySem.Expr} {scope : Scope} {cl : List (Str × Addr)} {n : Nat} {P : Nat → Value → Prop}

theorem up_of {h h₂ h₃ : Heap} {wr : List Addr} (hst : h.StaysIn h₂) (hw : ∀ b ∈ wr, h.get? b = none) (hk : ∀ b o, b ∉ wr → h₂.get? b = some o → h₃.get? b = some o) : h.StaysIn h₃ := fun b o e =>
  hk b o (fun hm => by rw [hw b hm] at e; cases e) (hst b o e)

theorem lc_imm {Q : Value → Shared → Prop} (p : Value → Bool) (F : Value → Value → Prop)
    (hclos : closureFor scope env = pure cl) (hcell : ∀ y ∈ scope.names, y.2 ≠ .cell) (hkind : scope.kind = .function)
    (hnames : ∀ y ∈ scope.names, y.2 = .local → scope.names.lookup y.1 = some .local) (hx : scope.names.lookup x = some .local)
    (h : wpAny (model PR w) A (eval iter env) (fun xv s₁ => Src w A s₁.heap xv n P ∧ n ≤ sizeLine ∧
      (∀ C i v s₃ m₃ E', P i v → s₁.heap.objs.size ≤ C → s₃.heap.Ns C m₃ → m₃ x = some v → s₁.heap.StaysIn s₃.heap → wpAny (model PR w) A (lcTests ifs (compEnvC scope cl C env)) (fun ok s₄ => ok = p v ∧ Keeps s₃ s₄) E' s₃) ∧
      (∀ C i v s₃ m₃ E', P i v → p v = true → s₁.heap.objs.size ≤ C → s₃.heap.Ns C m₃ → m₃ x = some v → s₁.heap.StaysIn s₃.heap → wpAny (model PR w) A (eval elt (compEnvC scope cl C env)) (fun y s₄ => F v y ∧ Keeps s₃ s₄) E' s₃) ∧
      (∀ D h' tk ys (vs : List Value), s₁.heap.get? D = none → h'.PlainList D ys → vs.length = n → (∀ j v, vs[j]? = some v → P j v) → Paired F (vs.filter p) ys.toList → s₁.heap.StaysIn h' → Q (.ref D) { s₁ with heap := h', toks := tk })) E s)
    (hs : ∀ x, foldedSetIterable iter env x = pure x) :
    wpAny (model PR w) A (eval (.ListComp elt [⟨.Name x px, iter, ifs, 0⟩] scope pos) env) Q E s := by
  refine wpAny_ListComp_free p F hclos hcell hkind hnames hx (wpAny_mono h (fun xv s₁ h₁ => ?_) fun _ _ e => e) hs
  obtain ⟨hsrc, hsz, ht, he, hQ⟩ := h₁
  refine hsrc.go s₁ E _ rfl fun I fp wr St h₂ W hst hfp hup hw _ hle => ⟨I, fp, wr, n, P, St, rfl, W, hsz, hst, hfp, ⟨?_, ?_⟩, ?_⟩
  · intro C i v s₃ m₃ E' hC hP hn hm hk _
    exact ht C i v s₃ m₃ E' hP (Nat.le_trans hle hC) hn hm (up_of hup hw hk)
  · intro C i v s₃ m₃ E' hC hP hp hn hm hk _
    exact he C i v s₃ m₃ E' hP hp (Nat.le_trans hle hC) hn hm (up_of hup hw hk)
  · intro D h' tk ys vs hD _ hpl hlen hP hF hk
    refine hQ D h' tk ys vs ?_ hpl hlen hP hF (up_of hup hw hk)
    cases e : s₁.heap.get? D with
    | none => rfl
    | some o => have := hup D o e; rw [hD] at this; cases this

theorem lc_obj {Q : Value → Shared → Prop} (p : Value → Bool) (G : Value → Array Value → Prop)
    (hclos : closureFor scope env = pure cl) (hcell : ∀ y ∈ scope.names, y.2 ≠ .cell) (hkind : scope.kind = .function)
    (hnames : ∀ y ∈ scope.names, y.2 = .local → scope.names.lookup y.1 = some .local) (hx : scope.names.lookup x = some .local)
    (h : wpAny (model PR w) A (eval iter env) (fun xv s₁ => Src w A s₁.heap xv n P ∧ n ≤ sizeLine ∧
      (∀ C i v s₃ m₃ E', P i v → s₁.heap.objs.size ≤ C → s₃.heap.Ns C m₃ → m₃ x = some v → s₁.heap.StaysIn s₃.heap → wpAny (model PR w) A (lcTests ifs (compEnvC scope cl C env)) (fun ok s₄ => ok = p v ∧ Keeps s₃ s₄) E' s₃) ∧
      (∀ C i v s₃ m₃ E', P i v → p v = true → s₁.heap.objs.size ≤ C → s₃.heap.Ns C m₃ → m₃ x = some v → s₁.heap.StaysIn s₃.heap →
        wpAny (model PR w) A (eval elt (compEnvC scope cl C env)) (fun y s₄ => (∃ T its, y = .ref T ∧ s₃.heap.get? T = none ∧ s₄.heap.IsList T its ∧ G v its) ∧ Keeps s₃ s₄) E' s₃) ∧
      (∀ D h' tk ys (vs : List Value), s₁.heap.get? D = none → h'.PlainList D ys → vs.length = n → (∀ j v, vs[j]? = some v → P j v) → Paired (LstIs s₁.heap G h') (vs.filter p) ys.toList → s₁.heap.StaysIn h' → Q (.ref D) { s₁ with heap := h', toks := tk })) E s)
    (hs : ∀ x, foldedSetIterable iter env x = pure x) :
    wpAny (model PR w) A (eval (.ListComp elt [⟨.Name x px, iter, ifs, 0⟩] scope pos) env) Q E s := by
  refine wpAny_ListComp_freeO p G hclos hcell hkind hnames hx (wpAny_mono h (fun xv s₁ h₁ => ?_) fun _ _ e => e) hs
  obtain ⟨hsrc, hsz, ht, he, hQ⟩ := h₁
  refine hsrc.go s₁ E _ rfl fun I fp wr St h₂ W hst hfp hup hw hlive hle => ⟨I, fp, wr, n, P, St, rfl, W, hsz, hlive, hst, hfp, ⟨?_, ?_⟩, ?_⟩
  · intro C i v s₃ m₃ E' hC hP hn hm hk _
    exact ht C i v s₃ m₃ E' hP (Nat.le_trans hle hC) hn hm (up_of hup hw hk)
  · intro C i v s₃ m₃ E' hC hP hp hn hm hk _
    exact he C i v s₃ m₃ E' hP hp (Nat.le_trans hle hC) hn hm (up_of hup hw hk)
  · intro D h' tk ys vs hD _ hpl hlen hP hF _ _ hk
    have old : ∀ T, h₂.get? T = none → s₁.heap.get? T = none := fun T hT => by
      cases e : s₁.heap.get? T with
      | none => rfl
      | some o => have := hup T o e; rw [hT] at this; cases this
    refine hQ D h' tk ys vs (old D hD) hpl hlen hP (hF.mono fun _ _ hy => ?_) (up_of hup hw hk)
    obtain ⟨T, its, e, h1, h2, h3⟩ := hy
    exact ⟨T, its, e, old T h1, h2, h3⟩

theorem ns_at {h : Heap} {C : Addr} {m : Str → Option Value} (hn : h.Ns C m) : C < h.objs.size := by obtain ⟨o, _, _, e, _⟩ := hn; exact Heap.lt_size e

theorem lcA_imm {Q : Flow → Shared → Prop} (p : Value → Bool) (F : Value → Value → Prop)
    (hsw : swapsWith (.ListComp elt [⟨.Name x px, iter, ifs, 0⟩] scope pos) (some (.Name y py)) spos.line env = pure true)
    (hclos : closureFor scope env = pure cl) (hcell : ∀ y ∈ scope.names, y.2 ≠ .cell) (hkind : scope.kind = .function)
    (hnames : ∀ y ∈ scope.names, y.2 = .local → scope.names.lookup y.1 = some .local) (hx : scope.names.lookup x = some .local)
    (hy : env.kindOf y = some .local) (hp : (env.scope.kind == .class || (env.scope.kind == .module && env.locals != env.globals)) = false)
    (h : wpAny (model PR w) A (eval iter env) (fun xv s₁ => ∃ m, s₁.heap.Ns env.locals m ∧ Src w A s₁.heap xv n P ∧ n ≤ sizeLine ∧
      (∀ C i v s₃ m₃ E', P i v → s₁.heap.objs.size ≤ C → s₃.heap.Ns C m₃ → m₃ x = some v → s₁.heap.StaysIn s₃.heap → wpAny (model PR w) A (lcTests ifs (compEnvC scope cl C env)) (fun ok s₄ => ok = p v ∧ Keeps s₃ s₄) E' s₃) ∧
      (∀ C i v s₃ m₃ E', P i v → p v = true → s₁.heap.objs.size ≤ C → s₃.heap.Ns C m₃ → m₃ x = some v → s₁.heap.StaysIn s₃.heap → wpAny (model PR w) A (eval elt (compEnvC scope cl C env)) (fun y s₄ => F v y ∧ Keeps s₃ s₄) E' s₃) ∧
      (∀ D h' tk ys (vs : List Value), s₁.heap.get? D = none → h'.PlainList D ys → vs.length = n → (∀ j v, vs[j]? = some v → P j v) → Paired F (vs.filter p) ys.toList →
        h'.Ns env.locals (fun z => if z = y then some (.ref D) else m z) → (∀ b o, b ≠ env.locals → s₁.heap.get? b = some o → h'.get? b = some o) → Q .next { s₁ with heap := h', toks := tk })) E s)
    (hs : ∀ x, foldedSetIterable iter env x = pure x) :
    wpAny (model PR w) A (exec (.Assign [.Name y py] (.ListComp elt [⟨.Name x px, iter, ifs, 0⟩] scope pos) spos) env) Q E s := by
  refine wpAny_Assign_ListComp_free p F hsw hclos hcell hkind hnames hx hy hp (wpAny_mono h (fun xv s₁ h₁ => ?_) fun _ _ e => e) hs
  obtain ⟨m, hnL, hsrc, hsz, ht, he, hQ⟩ := h₁
  have hLs := ns_at hnL
  refine hsrc.go s₁ E _ rfl fun I fp wr St h₂ W hst hfp hup hw _ hle => ⟨I, fp, wr, n, P, St, m, rfl, W, hsz, hst, hfp, ?_, ?_, ⟨?_, ?_⟩, ?_⟩
  · intro hm
    obtain ⟨o, _, _, e, _⟩ := hnL
    rw [hw _ hm] at e; cases e
  · exact hnL.keeps hup
  · intro C i v s₃ m₃ E' hC hP hn hm hk _
    exact ht C i v s₃ m₃ E' hP (Nat.le_trans hle hC) hn hm (up_of hup hw hk)
  · intro C i v s₃ m₃ E' hC hP hp hn hm hk _
    exact he C i v s₃ m₃ E' hP hp (Nat.le_trans hle hC) hn hm (up_of hup hw hk)
  · intro D h' tk ys vs hD _ hpl hlen hP hF hn hk
    refine hQ D h' tk ys vs ?_ hpl hlen hP hF hn fun b o hb e => hk b o hb (fun hm => by rw [hw b hm] at e; cases e) (hup b o e)
    cases e : s₁.heap.get? D with
    | none => rfl
    | some o => have := hup D o e; rw [hD] at this; cases this

theorem lcA_obj {Q : Flow → Shared → Prop} (p : Value → Bool) (G : Value → Array Value → Prop)
    (hsw : swapsWith (.ListComp elt [⟨.Name x px, iter, ifs, 0⟩] scope pos) (some (.Name y py)) spos.line env = pure true)
    (hclos : closureFor scope env = pure cl) (hcell : ∀ y ∈ scope.names, y.2 ≠ .cell) (hkind : scope.kind = .function)
    (hnames : ∀ y ∈ scope.names, y.2 = .local → scope.names.lookup y.1 = some .local) (hx : scope.names.lookup x = some .local)
    (hy : env.kindOf y = some .local) (hp : (env.scope.kind == .class || (env.scope.kind == .module && env.locals != env.globals)) = false)
    (h : wpAny (model PR w) A (eval iter env) (fun xv s₁ => ∃ m, s₁.heap.Ns env.locals m ∧ Src w A s₁.heap xv n P ∧ n ≤ sizeLine ∧
      (∀ C i v s₃ m₃ E', P i v → s₁.heap.objs.size ≤ C → s₃.heap.Ns C m₃ → m₃ x = some v → s₁.heap.StaysIn s₃.heap → wpAny (model PR w) A (lcTests ifs (compEnvC scope cl C env)) (fun ok s₄ => ok = p v ∧ Keeps s₃ s₄) E' s₃) ∧
      (∀ C i v s₃ m₃ E', P i v → p v = true → s₁.heap.objs.size ≤ C → s₃.heap.Ns C m₃ → m₃ x = some v → s₁.heap.StaysIn s₃.heap →
        wpAny (model PR w) A (eval elt (compEnvC scope cl C env)) (fun y s₄ => (∃ T its, y = .ref T ∧ s₃.heap.get? T = none ∧ s₄.heap.IsList T its ∧ G v its) ∧ Keeps s₃ s₄) E' s₃) ∧
      (∀ D h' tk ys (vs : List Value), s₁.heap.get? D = none → h'.PlainList D ys → vs.length = n → (∀ j v, vs[j]? = some v → P j v) → Paired (LstIs s₁.heap G h') (vs.filter p) ys.toList →
        h'.Ns env.locals (fun z => if z = y then some (.ref D) else m z) → (∀ b o, b ≠ env.locals → s₁.heap.get? b = some o → h'.get? b = some o) → Q .next { s₁ with heap := h', toks := tk })) E s)
    (hs : ∀ x, foldedSetIterable iter env x = pure x) :
    wpAny (model PR w) A (exec (.Assign [.Name y py] (.ListComp elt [⟨.Name x px, iter, ifs, 0⟩] scope pos) spos) env) Q E s := by
  rw [exec_Assign_Name_used _ _ _ _ hsw]
  refine wpAny_bind (wpAny_standAt (wpAny_bind ?_))
  show wpAny _ A (do let _ ← comprehension (.ListComp elt [⟨.Name x px, iter, ifs, 0⟩] scope pos) scope env _ (newList []) false (eval iter env) (some (assign (.Name y py) env))) _ _ s
  refine wpAny_bind (wpAny_mono (wpAny_comprehension_free (use := some (assign (.Name y py) env)) (Q := fun _ s' => Q .next s') rfl hs hclos hkind hnames
    (wpAny_mono h (fun xv s₁ h₁ => ?_) fun _ _ e => e)) (fun _ s' hq => wpAny_pure (wpAny_pure hq)) fun _ _ e => e)
  obtain ⟨m, hnL, hsrc, hsz, ht, he, hQ⟩ := h₁
  have hLs := ns_at hnL
  refine hsrc.go s₁ E _ rfl fun I fp wr St h₂ W hst hfp hup hw hlive hle => ?_
  have hLw : env.locals ∉ wr := fun hm => by
    obtain ⟨o, _, _, e, _⟩ := hnL
    rw [hw _ hm] at e; cases e
  refine comp_block_walkCO (RR := fun acc C => compPost (model PR w) A E (some (assign (.Name y py) env)) (fun _ s' => Q .next s') acc C) W hsz p G hlive hcell hkind hx hst hfp ⟨?_, ?_⟩ ?_
  · intro C i v s₃ m₃ E' hC hP hn hm hk _
    exact ht C i v s₃ m₃ E' hP (Nat.le_trans hle hC) hn hm (up_of hup hw hk)
  · intro C i v s₃ m₃ E' hC hP hp hn hm hk _
    exact he C i v s₃ m₃ E' hP hp (Nat.le_trans hle hC) hn hm (up_of hup hw hk)
  intro D C h' tk m' ys vs hD hC hDC hnC hlD hplD hlen hP hF _ hk
  have hn₂ : h₂.Ns env.locals m := hnL.keeps hup
  have hLC : env.locals ≠ C := by rintro rfl; obtain ⟨o, _, _, ho, _⟩ := hn₂; rw [hC] at ho; cases ho
  have hLD : env.locals ≠ D := by rintro rfl; obtain ⟨o, _, _, ho, _⟩ := hn₂; rw [hD] at ho; cases ho
  have old : ∀ T, h₂.get? T = none → s₁.heap.get? T = none := fun T hT => by
    cases e : s₁.heap.get? T with
    | none => rfl
    | some o => have := hup T o e; rw [hT] at this; cases this
  show wpAny _ A (assign (.Name y py) env (.ref D)) _ _ _
  refine wpAny_assign_Name (wpAny_storeName_local hy (hn₂.at' fun o e => hk _ o hLw e) (fun h₃ hn₃ hs₃ => ?_) hp)
  refine ⟨m', hnC.sameBut hs₃ (Ne.symm hLC), fun h₄ hs₄ => ?_⟩
  refine hQ D h₄ _ ys vs (old D hD) ((hplD.extBut hs₃.extBut (Ne.symm hLD)).extBut hs₄.extBut hDC) hlen hP (hF.mono fun _ _ hy => ?_) (hn₃.sameBut hs₄ hLC) fun b o hbL e =>
    hs₄.extBut b o (by rintro rfl; rw [old _ hC] at e; cases e) (hs₃.extBut b o hbL (hk b o (fun hm => by rw [hw b hm] at e; cases e) (hup b o e)))
  obtain ⟨T, its, e, h1, hTC, _, hTD, hlT, hG⟩ := hy
  have hTL : T ≠ env.locals := by rintro rfl; obtain ⟨o, _, _, ho, _⟩ := hn₂; rw [h1] at ho; cases ho
  exact ⟨T, its, e, old T h1, (hlT.extBut hs₃.extBut hTL).extBut hs₄.extBut hTC, hG⟩
end

section
variable {M : Model} {A : Around} {E : Value → Shared → Prop} {s : Shared} {sc : Scope} {cl : List (Str × Addr)} {C c : Addr} {env : Env} {x : Str} {pos : Pos} {v : Value} {m : Str → Option Value} {Q : Value → Shared → Prop}
theorem nameKL (hn : s.heap.Ns C m) (hv : m x = some v) (h : Q v s) (hk : (compEnvC sc cl C env).scope.kind = .function) (hl : (compEnvC sc cl C env).kindOf x = some .local) (hd : (x == ("__debug__" : Str)) = false := by decide) :
    wpAny M A (eval (.Name x pos) (compEnvC sc cl C env)) Q E s := wpAny_Name (wpAny_loadName_local hk hl hn hv h) hd
theorem nameKC (hc : cl.lookup x = some c) (hv : s.heap.IsCell c (some v)) (h : Q v s) (hk : (compEnvC sc cl C env).scope.kind = .function) (hl : (compEnvC sc cl C env).kindOf x = some .cell) (hd : (x == ("__debug__" : Str)) = false := by decide) :
    wpAny M A (eval (.Name x pos) (compEnvC sc cl C env)) Q E s := wpAny_Name (wpAny_loadName_cell hk hl hc hv h) hd
theorem nameKG {K : Frag} {p : Program} {loose : List Str} {mg mb : Str → Option Value} (X : K.In s.heap) (T : TopRead p loose mg mb s.heap) (e : nsIn K mainGlobals x = some (some v)) (h : Q v s)
    (hg : (compEnvC sc cl C env).globals = mainGlobals) (hk : (compEnvC sc cl C env).scope.kind = .function) (hx : (compEnvC sc cl C env).kindOf x = some .globalImplicit) (hd : (x == ("__debug__" : Str)) = false) :
    wpAny M A (eval (.Name x pos) (compEnvC sc cl C env)) Q E s :=
  Name_function_global hk hx (loadGlobal_global (env := compEnvC sc cl C env) (by rw [hg]; exact T.g) (mg_of X T.g e) h) hd
end

theorem item_S {w : World} {A : Around} {E Q : Value → Shared → Prop} {s : Shared} {value slice : PySem.Expr} {x : Str} {t u : Tok} {k : Int} (h0 : 0 ≤ k) (h1 : k.toNat < x.cps.size) (hfit : x.cps.size ≤ 1000000)
    (h : ∀ t' n, Q (.str ⟨#[x.cps.getD k.toNat 0]⟩ t') { s with toks := n })
    (hs : subscripted slice false (.str x t) (.int k u) = operate [.str x t, .int k u] (getItem (.str x t) (.int k u))) :
    wpAny (model PR w) A (subscriptTail value slice (.str x t) (.int k u)) Q E s := by
  refine tail_any (typeIs_str s x t) PySem.F.slot_str_getitem.lookup (P.getItem_str (c := x.cps.getD k.toNat 0) ?_ ?_ (h _ _)) hs
  · simp only [Bool.or_eq_false_iff, decide_eq_false_iff_not]
    constructor <;> omega
  · have hl : x.length = x.cps.size := rfl
    have e : seqIndex? k x.length = some k.toNat := by
      rw [hl]
      simp [seqIndex?, Int.not_lt.mpr h0, h0]
      omega
    rw [e]
    simp [h1]
theorem letters_at (k : Nat) (h : k < 16) : (Str.ofString "ABCDEFGHIJKLMNOP").cps.getD k 0 = 65 + k := by
  have all : ∀ k : Fin 16, (Str.ofString "ABCDEFGHIJKLMNOP").cps.getD k.val 0 = 65 + k.val := by decide +kernel
  exact all ⟨k, h⟩
theorem letters_size : (Str.ofString "ABCDEFGHIJKLMNOP").cps.size = 16 := by decide +kernel

theorem item_By {w : World} {A : Around} {E Q : Value → Shared → Prop} {s : Shared} {value slice : PySem.Expr} {l : List UInt8} {t u : Tok} {k : Int} (h0 : 0 ≤ k) (h1 : k < (l.length : Int)) (hfit : l.length ≤ 1000000)
    (h : ∀ t' n, Q (.int (((l.getD k.toNat 0).toNat : Nat) : Int) t') { s with toks := n })
    (hs : subscripted slice false (.bytes l.toArray t) (.int k u) = operate [.bytes l.toArray t, .int k u] (getItem (.bytes l.toArray t) (.int k u)))
    (ht : ∀ r, letTemporaryGo value (.bytes l.toArray t) r = pure ()) :
    wpAny (model PR w) A (subscriptTail value slice (.bytes l.toArray t) (.int k u)) Q E s :=
  bytes_item_K (by omega) h0 h1 rfl (h _ _) hs ht
end Mine
end
section
open PySem PySem.W PySem.Calls PyProof.Rows
set_option maxRecDepth 100000
namespace Mine
theorem paired_of_get {α β : Type} {F : α → β → Prop} : ∀ {l₁ : List α} {l₂ : List β}, l₁.length = l₂.length → (∀ (j : Nat) a b, l₁[j]? = some a → l₂[j]? = some b → F a b) → Paired F l₁ l₂
  | [], [], _, _ => .nil
  | [], _ :: _, h, _ => by cases h
  | _ :: _, [], h, _ => by cases h
  | a :: l₁, b :: l₂, h, hF => .cons (hF 0 a b rfl rfl) (paired_of_get (by simpa using h) fun j a' b' h1 h2 => hF (j + 1) a' b' (by simpa using h1) (by simpa using h2))
theorem paired_get {α β : Type} {F : α → β → Prop} : ∀ {l₁ : List α} {l₂ : List β}, Paired F l₁ l₂ → ∀ {j : Nat} {a : α}, l₁[j]? = some a → ∃ b, l₂[j]? = some b ∧ F a b
  | _, _, .nil, j, a, h => by simp at h
  | _, _, .cons h t, 0, a, e => by simp at e; subst e; exact ⟨_, rfl, h⟩
  | _, _, .cons h t, j + 1, a, e => by simpa using paired_get t (by simpa using e)
theorem paired_getR {α β : Type} {F : α → β → Prop} : ∀ {l₁ : List α} {l₂ : List β}, Paired F l₁ l₂ → ∀ {j : Nat} {b : β}, l₂[j]? = some b → ∃ a, l₁[j]? = some a ∧ F a b
  | _, _, .nil, j, a, h => by simp at h
  | _, _, .cons h t, 0, a, e => by simp at e; subst e; exact ⟨_, rfl, h⟩
  | _, _, .cons h t, j + 1, a, e => by simpa using paired_getR t (by simpa using e)
theorem paired_mono {α β : Type} {F G : α → β → Prop} (h : ∀ a b, F a b → G a b) : ∀ {l₁ : List α} {l₂ : List β}, Paired F l₁ l₂ → Paired G l₁ l₂
  | _, _, .nil => .nil
  | _, _, .cons h1 t => .cons (h _ _ h1) (paired_mono h t)
theorem paired_append {α β : Type} {F : α → β → Prop} : ∀ {l₁ m₁ : List α} {l₂ m₂ : List β}, Paired F l₁ l₂ → Paired F m₁ m₂ → Paired F (l₁ ++ m₁) (l₂ ++ m₂)
  | _, _, _, _, .nil, h => h
  | _, _, _, _, .cons h1 t, h => .cons h1 (paired_append t h)
theorem strsAre_of {vs : List Value} {ss : List Str} (h : Paired (fun v x => ∃ t, v = Value.str x t) vs ss) : StrsAre vs ss := by
  induction h with
  | nil => exact .nil
  | cons h _ ih => obtain ⟨t, rfl⟩ := h; exact .cons _ t ih
abbrev BsAre (vs : List Value) (bs : List (List UInt8)) : Prop := Paired (fun v b => ∃ t, v = Value.bytes (List.toArray b) t) vs bs

theorem join_cps : ∀ (l : List Str), (Str.join (Str.ofString "") l).cps.toList = l.flatMap (·.cps.toList)
  | [] => rfl
  | [x] => by simp [Str.join]
  | x :: y :: r => by
    have ih := join_cps (y :: r)
    show ((x ++ Str.ofString "" ++ Str.join (Str.ofString "") (y :: r)).cps).toList = _
    have e : (x ++ Str.ofString "" ++ Str.join (Str.ofString "") (y :: r)).cps = x.cps ++ (Str.ofString "").cps ++ (Str.join (Str.ofString "") (y :: r)).cps := rfl
    have e0 : (Str.ofString "").cps = #[] := by decide
    rw [e, e0]
    simp [ih]
theorem letters_item (k : Nat) (h : k < 16) : Txt.item (Str.ofString "ABCDEFGHIJKLMNOP") ((k : Nat) : Int) = ⟨#[65 + k]⟩ := by
  have all : ∀ k : Fin 16, Txt.item (Str.ofString "ABCDEFGHIJKLMNOP") ((k.val : Nat) : Int) = ⟨#[65 + k.val]⟩ := by decide +kernel
  exact all ⟨k, h⟩
def dueS (r : List UInt8) : Str := Str.ofString "B" ++ Txt.join (Str.ofString "") (r.map twoS)
theorem dueS_cps (r : List UInt8) : (dueS r).cps.toList = 66 :: r.flatMap fun c => [65 + c.toNat / 16, 65 + c.toNat % 16] := by
  have e : (dueS r).cps = (Str.ofString "B").cps ++ (Txt.join (Str.ofString "") (r.map twoS)).cps := rfl
  have e1 : (Str.ofString "B").cps = #[66] := by decide
  have e2 : Txt.join (Str.ofString "") (r.map twoS) = Str.join (Str.ofString "") (r.map twoS) := StrLaws.glued_eq_join _ _
  rw [e, e1, e2, Array.toList_append, join_cps, List.flatMap_map]
  rfl
theorem dueS_small (r : List UInt8) : ∀ c ∈ (dueS r).cps, c < 128 := by
  intro c hc
  have h : c ∈ (dueS r).cps.toList := by simpa using hc
  rw [dueS_cps] at h
  rcases List.mem_cons.mp h with rfl | h
  · decide
  · obtain ⟨o, _, ho⟩ := List.mem_flatMap.mp h
    have h2 := o.toNat_lt
    simp only [List.mem_cons, List.not_mem_nil, or_false] at ho
    omega
theorem dueS_size (r : List UInt8) : (dueS r).cps.size = 1 + 2 * r.length := by
  rw [← Array.length_toList, dueS_cps]
  induction r with
  | nil => rfl
  | cons c r ih => simp only [List.flatMap_cons, List.length_cons, List.length_append, List.length_nil] at ih ⊢; omega
theorem dueS_bytes (r : List UInt8) : (dueS r).cps.map (·.toUInt8) = (due r).toArray := by
  apply Array.ext'
  rw [Array.toList_map, dueS_cps]
  simp only [List.map_cons, due, List.map_flatMap]
  congr 1

theorem getm_encode {M : Model} {A : Around} {E : Value → Shared → Prop} {s : Shared} {x : Str} {t : Tok} {pl : Sem Bool} {Q : Value × List Value → Shared → Prop} (h : Q (.builtin "str.encode", [.str x t]) s) :
    wpAny M A (getMethod (.str x t) "encode" pl) Q E s := by
  with_reducible exact GM.of (.str x t) (typeIs_str _ _ _) PySem.F.slot_str_encode PySem.F.type_str_encode (fun _ e => nomatch e) h
theorem len_twoS (r : List UInt8) : (List.map (fun x => x.length) (r.map twoS)).sum + (r.map twoS).length * (Str.ofString "").length ≤ 100 * r.length := by
  have e0 : (Str.ofString "").length = 0 := by decide
  rw [e0, Nat.mul_zero, Nat.add_zero]
  induction r with
  | nil => exact Nat.zero_le _
  | cons c r ih =>
    have e1 : (twoS c).length = 2 := rfl
    simp only [List.map_cons, List.sum_cons, List.length_cons, e1] at ih ⊢
    omega

theorem dueS_len (r : List UInt8) : (Str.ofString "B").length + (Txt.join (Str.ofString "") (r.map twoS)).length = 1 + 2 * r.length := by
  rw [← Str.length_append]; exact dueS_size r

abbrev sgText : Str := Str.ofString "ABCDEFGHIJKLMNOPQRSTUVWXYZabcdefghijklmnopqrstuvwxyz0123456789+/"
/-- the sign of six bits -/
def sgn (k : Nat) : Nat := sgText.cps.getD k 0
def signs (r : List UInt8) : List UInt8 := (six r).map fun k => (sgn k).toUInt8

theorem sg_size : sgText.cps.size = 64 := by decide +kernel
theorem sgn_lt (k : Nat) : sgn k < 128 := by
  have all : ∀ k : Fin 64, sgText.cps.getD k.val 0 < 128 := by decide +kernel
  unfold sgn
  rcases Nat.lt_or_ge k 64 with h | h
  · exact all ⟨k, h⟩
  · have e : sgText.cps[k]? = none := by simp [sg_size]; omega
    have e2 : sgText.cps.getD k 0 = (sgText.cps[k]?).getD 0 := by simp [Array.getD_eq_getD_getElem?]
    rw [e2, e]; decide
def textOf (l : List Nat) : Str := ⟨(l.map sgn).toArray⟩
theorem textOf_small (l : List Nat) : ∀ c ∈ (textOf l).cps, c < 128 := by
  intro c hc
  have h : c ∈ l.map sgn := by simpa [textOf] using hc
  obtain ⟨k, _, rfl⟩ := List.mem_map.mp h
  exact sgn_lt k
theorem textOf_bytes (l : List Nat) : (textOf l).cps.map (·.toUInt8) = (l.map fun k => (sgn k).toUInt8).toArray := by
  apply Array.ext'; simp [textOf]
theorem six_length : ∀ (n : Nat) (r : List UInt8), r.length = 3 * n → (six r).length = 4 * n
  | 0, l, h => by
    have := List.eq_nil_of_length_eq_zero (l := l) (by omega)
    subst this; rfl
  | n + 1, [], h => by simp at h
  | n + 1, [_], h => by simp at h; omega
  | n + 1, [_, _], h => by simp at h; omega
  | n + 1, a :: b :: c :: r, h => by
    have ih := six_length n r (by simp at h; omega)
    simp only [six, List.length_cons, ih]; omega
theorem sx3_length : ∀ (n : Nat) (l : List Nat), l.length = 3 * n → (sx3 l).length = 2 * n
  | 0, l, h => by
    have := List.eq_nil_of_length_eq_zero (l := l) (by omega)
    subst this; rfl
  | n + 1, [], h => by simp at h
  | n + 1, [_], h => by simp at h; omega
  | n + 1, [_, _], h => by simp at h; omega
  | n + 1, a :: b :: c :: r, h => by
    have ih := sx3_length n r (by simp at h; omega)
    simp only [sx3, List.length_cons, ih]; omega

theorem sg_item (k : Nat) (h : k < 64) : Txt.item sgText ((k : Nat) : Int) = ⟨#[sgn k]⟩ := by
  have all : ∀ k : Fin 64, Txt.item sgText ((k.val : Nat) : Int) = ⟨#[sgn k.val]⟩ := by decide +kernel
  exact all ⟨k, h⟩

theorem bitOr_nat (a b : Nat) : Builtin.bitOr ((a : Nat) : Int) ((b : Nat) : Int) = ((a ||| b : Nat) : Int) := by
  have n : ∀ k : Nat, Builtin.bitNot ((k : Nat) : Int) = -((k : Nat) : Int) - 1 := fun k => by unfold Builtin.bitNot; omega
  unfold Builtin.bitOr
  have ha : decide (0 ≤ Builtin.bitNot ((a : Nat) : Int)) = false := by rw [n]; simp; omega
  have hb : decide (0 ≤ Builtin.bitNot ((b : Nat) : Int)) = false := by rw [n]; simp; omega
  unfold Builtin.bitAnd
  rw [ha, hb]
  dsimp only
  have na : (Builtin.bitNot (Builtin.bitNot ((a : Nat) : Int))).toNat = a := by rw [n]; unfold Builtin.bitNot; omega
  have nb : (Builtin.bitNot (Builtin.bitNot ((b : Nat) : Int))).toNat = b := by rw [n]; unfold Builtin.bitNot; omega
  rw [na, nb, n]
  unfold Builtin.bitNot; omega
theorem bitOr_glue (a b k : Nat) (h : b < 2 ^ k) : Builtin.bitOr (((a * 2 ^ k : Nat)) : Int) ((b : Nat) : Int) = ((a * 2 ^ k + b : Nat) : Int) := by
  rw [bitOr_nat, Nat.mul_comm, ← Nat.two_pow_add_eq_or_of_lt h]
/-- the sixes of bits that come out of so many left bits -/
def rest (lc : Nat) : Nat → Nat → List Nat
  | 0, _ => []
  | f + 1, lb => if lb < 6 then [] else (lc / 2 ^ (lb - 6)) % 64 :: rest lc f (lb - 6)

abbrev b64L : List UInt8 := [65, 66, 67, 68, 69, 70, 71, 72, 73, 74, 75, 76, 77, 78, 79, 80, 81, 82, 83, 84, 85, 86, 87, 88, 89, 90, 97, 98, 99, 100, 101, 102, 103, 104, 105, 106, 107, 108, 109, 110, 111, 112, 113, 114, 115, 116, 117, 118, 119, 120, 121, 122, 48, 49, 50, 51, 52, 53, 54, 55, 56, 57, 43, 47]
theorem b64_at (k : Nat) (h : k < 64) : (b64L.getD k 0).toNat = sgn k := by
  have all : ∀ k : Fin 64, (b64L.getD k.val 0).toNat = sgn k.val := by decide +kernel
  exact all ⟨k, h⟩
theorem intsAre_snoc {a : Int} {t : Tok} : ∀ {vs : List Value} {ns : List Int}, IntsAre vs ns → IntsAre (vs ++ [.int a t]) (ns ++ [a])
  | _, _, .nil => .cons a t .nil
  | _, _, .cons b u h => .cons b u (intsAre_snoc h)
theorem rest_stop (lc : Nat) (f lb : Nat) (h : lb < 6) : rest lc (f + 1) lb = [] := by simp [rest, h]
theorem rest_go (lc lb : Nat) (h : 6 ≤ lb) (h2 : lb ≤ 12) : rest lc 3 lb = (lc / 2 ^ (lb - 6)) % 64 :: rest lc 3 (lb - 6) := by
  have e : ∀ m, m ≤ 6 → rest lc 2 m = rest lc 3 m := by
    intro m hm
    rcases Nat.lt_or_ge m 6 with h3 | h3
    · simp [rest, h3]
    · have : m = 6 := by omega
      subst this
      simp [rest]
  have h4 : ¬ lb < 6 := by omega
  rw [← e (lb - 6) (by omega)]
  show (if lb < 6 then [] else _) = _
  rw [if_neg h4]
theorem shift_mask (x k : Nat) (h : 6 ≤ k) : Builtin.bitAnd (((x : Nat) : Int).fdiv (2 ^ (((k : Nat) : Int) - 6).toNat)) 63 = ((x / 2 ^ (k - 6) % 64 : Nat) : Int) := by
  have e : (((k : Nat) : Int) - 6).toNat = k - 6 := by omega
  have e2 : ((2 : Int) ^ (k - 6)) = ((2 ^ (k - 6) : Nat) : Int) := by push_cast; rfl
  rw [e, e2, Int.fdiv_eq_ediv_of_nonneg _ (Int.natCast_nonneg _), bitAnd_m6]
  push_cast; rfl

theorem take_snoc {α : Type} {r : List α} {j : Nat} {c : α} (h : r[j]? = some c) : r.take (j + 1) = r.take j ++ [c] := by rw [List.take_add_one, h]; rfl
/-- where the reading of the octets stands -/
def PhB (r : List UInt8) (i lb lc : Nat) : Prop := (i % 3 = 0 ∧ lb = 0) ∨ (i % 3 = 1 ∧ lb = 2 ∧ ∃ a, r[i - 1]? = some a ∧ lc % 4 = UInt8.toNat a % 4) ∨ (i % 3 = 2 ∧ lb = 4 ∧ ∃ b, r[i - 1]? = some b ∧ lc % 16 = UInt8.toNat b % 16)
theorem rest_8 (x : Nat) : rest x 3 8 = [x / 4 % 64] := by
  rw [rest_go x 8 (by decide) (by decide), rest_stop _ _ _ (by decide)]
theorem rest_10 (x : Nat) : rest x 3 10 = [x / 16 % 64] := by
  rw [rest_go x 10 (by decide) (by decide), rest_stop _ _ _ (by decide)]
theorem rest_12 (x : Nat) : rest x 3 12 = [x / 64 % 64, x % 64] := by
  rw [rest_go x 12 (by decide) (by decide), rest_go x 6 (by decide) (by decide), rest_stop _ _ _ (by decide)]
  simp
theorem phB_step {r : List UInt8} {i lb lc k : Nat} {c : UInt8} (hc : r[i]? = some c) (hph : PhB r i lb lc) (hk : k < 6) (hm : k % 6 = (lb + 8) % 6) :
    em (r.take i) ++ rest (lc % 256 * 256 + c.toNat) 3 (lb + 8) = em (r.take (i + 1)) ∧ PhB r (i + 1) k (lc % 256 * 256 + c.toNat) := by
  have hc2 := c.toNat_lt
  have hil : i < r.length := (List.getElem?_eq_some_iff.mp hc).1
  have hlen : ∀ j, j ≤ i → (r.take j).length = j := fun j hj => by rw [List.length_take]; omega
  rcases hph with ⟨h1, rfl⟩ | ⟨h1, rfl, a, ha, hl⟩ | ⟨h1, rfl, b, hb, hl⟩
  · refine ⟨?_, .inr (.inl ⟨by omega, by omega, c, hc, by omega⟩)⟩
    rw [rest_8, take_snoc hc, em_snoc0 (i / 3) _ c (by rw [hlen i (Nat.le_refl _)]; omega)]
    congr 2; omega
  · refine ⟨?_, .inr (.inr ⟨by omega, by omega, c, hc, by omega⟩)⟩
    obtain ⟨j, rfl⟩ : ∃ j, i = j + 1 := ⟨i - 1, by omega⟩
    have ha' : r[j]? = some a := ha
    rw [rest_10, take_snoc hc, take_snoc ha', em_snoc1 (j / 3) _ a c (by rw [hlen j (by omega)]; omega)]
    congr 2; omega
  · refine ⟨?_, .inl ⟨by omega, by omega⟩⟩
    obtain ⟨j, rfl⟩ : ∃ j, i = j + 1 + 1 := ⟨i - 2, by omega⟩
    have hb' : r[j + 1]? = some b := hb
    have hj : j < r.length := by omega
    have ha' : r[j]? = some r[j] := List.getElem?_eq_getElem hj
    rw [rest_12, take_snoc hc, take_snoc hb', take_snoc ha', em_snoc2 (j / 3) _ r[j] b c (by rw [hlen j (by omega)]; omega), List.append_assoc]
    have f1 : (lc % 256 * 256 + c.toNat) / 64 % 64 = b.toNat % 16 * 4 + c.toNat / 64 := by omega
    have f2 : (lc % 256 * 256 + c.toNat) % 64 = c.toNat % 64 := by omega
    rw [f1, f2]; simp

theorem intsAre_snoc' {a b : Int} {t : Tok} {vs : List Value} {ns : List Int} (h : IntsAre vs ns) (e : a = b) : IntsAre (vs ++ [.int a t]) (ns ++ [b]) := e ▸ intsAre_snoc h
theorem rest_length (lc : Nat) : ∀ f lb, (rest lc f lb).length ≤ f
  | 0, _ => Nat.le_refl _
  | f + 1, lb => by
    unfold rest
    split
    · exact Nat.zero_le _
    · rw [List.length_cons]; have := rest_length lc f (lb - 6); omega

theorem sgn_cases (k : Nat) (h : k < 64) : (k < 26 ∧ sgn k = 65 + k) ∨ (26 ≤ k ∧ k < 52 ∧ sgn k = k + 71) ∨ (52 ≤ k ∧ k < 62 ∧ sgn k + 4 = k) ∨ (k = 62 ∧ sgn k = 43) ∨ (k = 63 ∧ sgn k = 47) := by
  have all : ∀ k : Fin 64, (k.val < 26 ∧ sgn k.val = 65 + k.val) ∨ (26 ≤ k.val ∧ k.val < 52 ∧ sgn k.val = k.val + 71) ∨ (52 ≤ k.val ∧ k.val < 62 ∧ sgn k.val + 4 = k.val) ∨ (k.val = 62 ∧ sgn k.val = 43) ∨ (k.val = 63 ∧ sgn k.val = 47) := by decide +kernel
  exact all ⟨k, h⟩
theorem val_ret {s : Shared} {Q : Value → Shared → Prop} {a b : Int} {t : Tok} {h' : Heap} {tk : Nat} (hQ : Ret s Q fun t => .int b t) (e : a = b) (hst : s.heap.StaysIn h') : Q (.int a t) { s with heap := h', toks := tk } := e ▸ hQ t h' tk hst
theorem glue_shift (x y a b : Nat) (h : y / 2 ^ b < 2 ^ a) : Builtin.bitOr (((x : Nat) : Int) * 2 ^ a) (((y : Nat) : Int).fdiv (2 ^ b)) = ((x * 2 ^ a + y / 2 ^ b : Nat) : Int) := by
  have e1 : ((x : Int) * 2 ^ a) = ((x * 2 ^ a : Nat) : Int) := by push_cast; rfl
  have e2 : ((2 : Int) ^ b) = ((2 ^ b : Nat) : Int) := by push_cast; rfl
  have e3 : (((y : Nat) : Int).fdiv (2 ^ b)) = ((y / 2 ^ b : Nat) : Int) := by
    rw [e2, Int.fdiv_eq_ediv_of_nonneg _ (Int.natCast_nonneg _)]; push_cast; rfl
  rw [e1, e3, bitOr_glue x _ a h]

/-- where the reading of the signs stands -/
def PhA (ks : List Nat) (j lf : Nat) : Prop := j % 4 = 0 ∨ (j % 4 = 1 ∧ ∃ x, ks[j - 1]? = some x ∧ lf = x) ∨ (j % 4 = 2 ∧ ∃ y, ks[j - 1]? = some y ∧ lf = y % 16) ∨ (j % 4 = 3 ∧ ∃ z, ks[j - 1]? = some z ∧ lf = z % 4)
theorem signs_get {r : List UInt8} {j : Nat} {c : UInt8} (h : (signs r)[j]? = some c) : ∃ k, (six r)[j]? = some k ∧ c.toNat = sgn k := by
  unfold signs at h
  rw [List.getElem?_map] at h
  cases e : (six r)[j]? with
  | none => rw [e] at h; cases h
  | some k =>
    rw [e] at h
    cases h
    refine ⟨k, rfl, ?_⟩
    have := sgn_lt k
    show sgn k % 256 = _
    omega
theorem signs_length (n : Nat) (r : List UInt8) (h : r.length = 3 * n) : (signs r).length = 4 * n := by
  unfold signs; rw [List.length_map, six_length n r h]

theorem dq_step {ks : List Nat} {j lf k : Nat} (hk : ks[j]? = some k) (hph : PhA ks j lf) :
    (j % 4 = 0 → dq (ks.take (j + 1)) = dq (ks.take j)) ∧ (j % 4 = 1 → dq (ks.take (j + 1)) = dq (ks.take j) ++ [lf * 4 + k / 16]) ∧
    (j % 4 = 2 → dq (ks.take (j + 1)) = dq (ks.take j) ++ [lf * 16 + k / 4]) ∧ (j % 4 = 3 → dq (ks.take (j + 1)) = dq (ks.take j) ++ [lf * 64 + k]) := by
  have hil : j < ks.length := (List.getElem?_eq_some_iff.mp hk).1
  have hlen : ∀ i, i ≤ j → (ks.take i).length = i := fun i hi => by rw [List.length_take]; omega
  refine ⟨fun h => ?_, fun h => ?_, fun h => ?_, fun h => ?_⟩
  · rw [take_snoc hk]; exact dq_snoc0 (j / 4) _ (by rw [hlen j (Nat.le_refl _)]; omega) k
  · rcases hph with h' | ⟨_, x, hx, rfl⟩ | ⟨h', _⟩ | ⟨h', _⟩
    · omega
    · obtain ⟨i, rfl⟩ : ∃ i, j = i + 1 := ⟨j - 1, by omega⟩
      have hx' : ks[i]? = some lf := hx
      rw [take_snoc hk, take_snoc hx']; exact dq_snoc1 (i / 4) _ (by rw [hlen i (by omega)]; omega) _ k
    · omega
    · omega
  · rcases hph with h' | ⟨h', _⟩ | ⟨_, y, hy, rfl⟩ | ⟨h', _⟩
    · omega
    · omega
    · obtain ⟨i, rfl⟩ : ∃ i, j = i + 1 + 1 := ⟨j - 2, by omega⟩
      have hy' : ks[i + 1]? = some y := hy
      have hx' : ks[i]? = some ks[i] := List.getElem?_eq_getElem (by omega)
      rw [take_snoc hk, take_snoc hy', take_snoc hx']; exact dq_snoc2 (i / 4) _ (by rw [hlen i (by omega)]; omega) _ y k
    · omega
  · rcases hph with h' | ⟨h', _⟩ | ⟨h', _⟩ | ⟨_, z, hz, rfl⟩
    · omega
    · omega
    · omega
    · obtain ⟨i, rfl⟩ : ∃ i, j = i + 1 + 1 + 1 := ⟨j - 3, by omega⟩
      have hz' : ks[i + 1 + 1]? = some z := hz
      have hx' : ks[i]? = some ks[i] := List.getElem?_eq_getElem (by omega)
      have hy' : ks[i + 1]? = some ks[i + 1] := List.getElem?_eq_getElem (by omega)
      rw [take_snoc hk, take_snoc hz', take_snoc hy', take_snoc hx']; exact dq_snoc3 (i / 4) _ (by rw [hlen i (by omega)]; omega) _ _ z k
theorem lf_lt {ks : List Nat} {j lf : Nat} (hs : ∀ k ∈ ks, k < 64) (h : j % 4 ≠ 0) (hph : PhA ks j lf) : (j % 4 = 1 → lf < 64) ∧ (j % 4 = 2 → lf < 16) ∧ (j % 4 = 3 → lf < 4) := by
  rcases hph with h' | ⟨h', x, hx, rfl⟩ | ⟨h', y, hy, rfl⟩ | ⟨h', z, hz, rfl⟩
  · omega
  · have := hs _ (List.mem_of_getElem? hx); omega
  · omega
  · omega
theorem glue_or (x y a : Nat) (h : y < 2 ^ a) : Builtin.bitOr (((x : Nat) : Int) * 2 ^ a) ((y : Nat) : Int) = ((x * 2 ^ a + y : Nat) : Int) := by
  have e1 : ((x : Int) * 2 ^ a) = ((x * 2 ^ a : Nat) : Int) := by push_cast; rfl
  rw [e1, bitOr_glue x _ a h]
end Mine
end
open PySem PySem.W PySem.Calls PyProof.Rows
namespace Mine
local macro_rules | `(tactic| walk_at "mine room") => `(tactic| ((try simp only [depth_under_make, depth_under_kw, depth_in1, depth_deeper]); (try dsimp only [MA]); omega))
local macro_rules | `(tactic| walk_at "mine units") => `(tactic| ((have hcL9 := cLine_is); (try simp only [units_in1, units_deeper, Around.mark_units] at *); (try dsimp only [MA] at *); omega))
local macro_rules | `(tactic| walk_at "mine sides") => `(tactic| ((case k3 => k_asm); (case k5 => k_asm); (case k6 => k_is); (case k7 => k_is); (case k8 => walk_at "mine room"); (case k9 => first | exact BindsTo.of_eq rfl | exact binds_K (by k_in) rfl (by k_is) rfl rfl rfl); (case c5 => decide); (case kB => exact locs rfl); (case c2 => exact rfl); (case c3 => exact rfl); (case c4 => exact rfl); k_whole))
local macro_rules | `(tactic| walk_at "mine fill") => `(tactic| (refine KF.to (a := PySem.Challenge.rw_kq0050_01) (b := Mine.hd.heap_39) ?_; k_fill; refine KF.of ?_))
local macro_rules | `(tactic| walk_at "mine look") => `(tactic| first | assumption | exact look_here | (refine look_skip (by decide) ?_; walk_at "mine look") | exact rfl)
local macro_rules | `(tactic| walk_at "eval Name") => `(tactic| (k_here; k_dflt (refine' nameX_L ?F ?v ?_ ?a ?b; (case F => k_asm); (case a => rfl); (case b => rfl); (case v => walk_at "mine look"); k_whole)))
local macro_rules | `(tactic| walk_at "mine tree") => `(tactic| first | (with_reducible show wpAny _ _ _ _ _ _) | (with_reducible show Frag.In _ _ ∧ _) | (with_reducible show ite _ _ _))
local macro_rules | `(tactic| walk_at "mine halt") => `(tactic| walk_at "mine tree"; (fail_if_success (with_reducible show wpAny _ _ (exec (Stmt.While _ _ _ _) _) _ _ _)); (fail_if_success (with_reducible show wpAny _ _ (exec (Stmt.For _ _ _ _ _) _) _ _ _)); (fail_if_success (with_reducible show wpAny _ _ (pyIter _) _ _ _)); (fail_if_success (with_reducible show wpAny _ _ (call (Value.type "bytes") [Value.ref _]) _ _ _)); (fail_if_success (with_reducible show wpAny _ _ (eval (Expr.ListComp _ _ _ _) _) _ _ _)); (fail_if_success (with_reducible show wpAny _ _ (exec (Stmt.Assign _ (Expr.ListComp _ _ _ _) _) _) _ _ _)))
local macro_rules | `(tactic| walk_at "mine steps") => `(tactic| repeat' (first | (k_unfold; (try dsimp only)) | (walk_at "mine halt"; walk1) | (walk_at "mine halt"; dsimp only; walk1) | (leave1; try dsimp only) | (walk_at "mine nowp"; dsimp only [InvPostG, WhlPost])))
local macro_rules | `(tactic| walk_at "mine at") => `(tactic| first | (refine' IntAt.of ?mlook ?_; (case mlook => walk_at "mine look")) | (refine' BytesAt.of ?mlook ?_; (case mlook => walk_at "mine look")) | (refine' StrAt.of ?mlook ?_; (case mlook => walk_at "mine look")))
local macro_rules | `(tactic| walk_at "mine nowp") => `(tactic| (fail_if_success (with_reducible show wpAny _ _ _ _ _ _)))
local macro_rules | `(tactic| walk_at "subscriptTail") => `(tactic| (k_here; (with_reducible show wpAny _ _ (subscriptTail _ (Expr.Slice _ _ none _) (Value.bytes _ _) (Value.ref _)) _ _ _); (with_reducible rename Fr _ _ _ _ => F'); (with_reducible rename News _ _ _ _ => N'); (refine' KBc.slice_K (s := ⟨_, _, _, _, _⟩) F' N' rfl ?mu1 ?mu2 ?mz ?_; (case mu1 => constructor); (case mu2 => constructor); (case mz => walk_at "mine size")); clear F' N'; intro h' t' k' F' N' hpk))
local macro_rules | `(tactic| walk_at "binaryOp Add bytes bytes") => `(tactic| ((with_reducible show wpAny _ _ (binaryOp Operator.Add (Value.bytes _ _) (Value.bytes _ _)) _ _ _); (refine' KBy.add_bytes ?mz ?_; (case mz => walk_at "mine size")); intro t' k'))
local macro_rules | `(tactic| walk_at "mine size") => `(tactic| first | decide | ((try simp only [KBw.ints_length, List.size_toArray, List.length_append, List.length_cons, List.length_nil]); omega) | assumption)
local macro_rules | `(tactic| walk_at "mine T") => `(tactic| first | assumption | exact Top.keeps (by k_asm) (Fr.keep (by k_asm)))
local macro_rules | `(tactic| walk_at "mine back") => `(tactic| (intro t' h' tk' hst; (with_reducible rename Fr _ _ _ _ => F9); (with_reducible rename News _ _ _ _ => N9); (have F' := Fr.keeps F9 hst); (have N' := News.grown N9 hst); clear F9 N9; (try dsimp only)))
local macro_rules | `(tactic| walk_at "compareOp Lt bytes bytes") => `(tactic| refine lt_B ?_)
local macro_rules | `(tactic| walk_at "compareOp Gt bytes bytes") => `(tactic| refine gt_B ?_)
local macro_rules | `(tactic| walk_at "compareOp Eq bytes bytes") => `(tactic| refine eq_B ?_)
local macro_rules | `(tactic| walk_at "mine sidesC") => `(tactic| ((case k3 => k_asm); (case k5 => k_asm); (case k6 => k_is); (case k7 => k_is); (case kB => exact rfl); (case kD => decide +kernel); (case k8 => walk_at "mine room"); (case k9 => first | exact BindsTo.of_eq rfl | exact binds_K (by k_in) rfl (by k_is) rfl rfl rfl); (case c2 => exact rfl); (case c3 => exact rfl); (case c4 => exact rfl); k_whole; intro L' h' tk' cells' F' N' Y' hL'; k_cells Y'; (try dsimp only)))
local macro_rules | `(tactic| walk_at "eval Name") => `(tactic| first | (refine' nameKL ?n ?v ?_ ?a ?b; (case a => rfl); (case b => rfl); (case n => assumption); (case v => assumption)) | (refine' nameKC ?n ?v ?_ ?a ?b; (case a => rfl); (case b => rfl); (case n => exact rfl); (case v => assumption)) | (refine' nameKG ?X ?T ?e ?_ ?g ?a ?b ?d; (case g => rfl); (case a => rfl); (case b => rfl); (case d => decide); (case X => assumption); (case T => exact topRead_of (by assumption)); (case e => k_dflt k_is)))
local macro_rules | `(tactic| walk_at "subscriptTail") => `(tactic| ((with_reducible show wpAny _ _ (subscriptTail _ _ (Value.str _ _) (Value.int _ _)) _ _ _); (refine' item_S ?h0 ?h1 ?h2 ?_ ?hs; (case hs => with_unfolding_all rfl); (case h0 => walk_at "mine idx"); (case h1 => walk_at "mine idx"); (case h2 => walk_at "mine idx")); intro t' k'))
local macro_rules | `(tactic| walk_at "mine idx") => `(tactic| first | assumption | omega | decide)
local macro_rules | `(tactic| walk_at "getMethod str") => `(tactic| (with_reducible refine getm_encode ?_))
local macro_rules | `(tactic| walk_at "subscriptTail") => `(tactic| ((with_reducible show wpAny _ _ (subscriptTail _ _ (Value.bytes (List.toArray _) _) (Value.int _ _)) _ _ _); (refine' item_By ?h0 ?h1 ?h2 ?_ ?hs ?ht; (case hs => with_unfolding_all rfl); (case ht => (intro _; with_unfolding_all rfl)); (case h0 => walk_at "mine idx"); (case h1 => walk_at "mine idx"); (case h2 => walk_at "mine idx")); intro t' k'))
local macro_rules | `(tactic| walk_at "mine haltx") => `(tactic| ((fail_if_success (with_reducible show wpAny _ _ (storeName _ (Str.ofString "bits") _) _ _ _)); (fail_if_success (with_reducible show wpAny _ _ (binaryOp Operator.Add (Value.str _ _) (Value.str _ _)) _ _ _))))
local macro_rules | `(tactic| walk_at "mine stepsx") => `(tactic| repeat' (first | (k_unfold; (try dsimp only)) | (walk_at "mine haltx"; walk_at "mine halt"; walk1) | (walk_at "mine haltx"; walk_at "mine halt"; dsimp only; walk1) | (leave1; try dsimp only) | (walk_at "mine nowp"; dsimp only [InvPostG, WhlPost])))
local macro_rules | `(tactic| walk_at "call type:type") => `(tactic| ((with_reducible show wpAny _ _ (call (Value.type "type") [Value.bytes _ _]) _ _ _); refine call_type_of (Tx := "bytes") (typeIs_bytes _ _ _) (by decide +kernel) ?_))
local macro_rules | `(tactic| walk_at "mine haltw") => `(tactic| ((fail_if_success (with_reducible show wpAny _ _ (compareOp CmpOp.NotEq (Value.ref _) (Value.ref _)) _ _ _)); (fail_if_success (with_reducible show wpAny _ _ (compareOp CmpOp.Eq (Value.ref _) (Value.ref _)) _ _ _)); (fail_if_success (with_reducible show wpAny _ _ (call (Value.builtin "sorted") _) _ _ _)); (fail_if_success (with_reducible show wpAny _ _ (call (Value.ref 116) _) _ _ _)); (fail_if_success (with_reducible show wpAny _ _ (binaryOp Operator.Add (Value.ref _) (Value.ref _)) _ _ _)); (fail_if_success (with_reducible show wpAny _ _ (storeName _ (Str.ofString "drawn") _) _ _ _)); (fail_if_success (with_reducible show wpAny _ _ (storeName _ (Str.ofString "rows_of") _) _ _ _)); (fail_if_success (with_reducible show wpAny _ _ (storeName _ (Str.ofString "words_of") _) _ _ _)); (fail_if_success (with_reducible show wpAny _ _ (storeName _ (Str.ofString "places") _) _ _ _))))
local macro_rules | `(tactic| walk_at "mine stepsw") => `(tactic| repeat' (first | (k_unfold; (try dsimp only)) | (walk_at "mine haltw"; walk_at "mine halt"; walk1) | (walk_at "mine haltw"; walk_at "mine halt"; dsimp only; walk1) | (leave1; try dsimp only) | (walk_at "mine nowp"; dsimp only [InvPostG, WhlPost])))
local macro_rules | `(tactic| walk_at "mine haltv") => `(tactic| ((fail_if_success (with_reducible show wpAny _ _ (subscriptTail _ _ (Value.ref _) (Value.int _ _)) _ _ _)); (fail_if_success (with_reducible show wpAny _ _ (eval (Expr.Name _ _) (compEnvC _ _ _ _)) _ _ _)); (fail_if_success (with_reducible show wpAny _ _ (compareOp CmpOp.NotIn _ _) _ _ _))))
local macro_rules | `(tactic| walk_at "mine stepsv") => `(tactic| repeat' (first | (k_unfold; (try dsimp only)) | (walk_at "mine haltv"; walk_at "mine haltw"; walk_at "mine halt"; walk1) | (walk_at "mine haltv"; walk_at "mine haltw"; walk_at "mine halt"; dsimp only; walk1) | (leave1; try dsimp only) | (walk_at "mine nowp"; dsimp only [InvPostG, WhlPost])))
local macro_rules | `(tactic| walk_at "mine haltu") => `(tactic| (fail_if_success (with_reducible show wpAny _ _ (newTuple _) _ _ _)))
local macro_rules | `(tactic| walk_at "mine stepsu") => `(tactic| repeat' (first | (k_unfold; (try dsimp only)) | (walk_at "mine haltu"; walk_at "mine haltw"; walk_at "mine halt"; walk1) | (walk_at "mine haltu"; walk_at "mine haltw"; walk_at "mine halt"; dsimp only; walk1) | (leave1; try dsimp only) | (walk_at "mine nowp"; dsimp only [InvPostG, WhlPost])))
theorem top_off_F1 : True := by (w_top off; trivial)
section
set_option maxRecDepth 100000
abbrev apL : List UInt8 := [65, 66, 67, 68, 69, 70, 71, 72, 73, 74, 75, 76, 77, 78, 79, 80]
theorem ap_pick (k : Nat) (h : k < 16) : KBy.picked apL.toArray (some ((k : Nat) : Int)) (some (((k : Nat) : Int) + 1)) = #[hx k] := by
  have all : ∀ k : Fin 16, KBy.picked apL.toArray (some ((k.val : Nat) : Int)) (some (((k.val : Nat) : Int) + 1)) = #[hx k.val] := by decide +kernel
  exact all ⟨k, h⟩
section
variable {w : World} {p : Program} {loose : List Str} {mean : ExcName → Option Value} {mg mb : Str → Option Value} {dp un : Nat} {fr : Option (List Env)} {gd : Option (List Code)} {E Q : Value → Shared → Prop} {s : Shared}
set_option maxHeartbeats 4000000 in
theorem int2ap_call {n : Nat} {tk : Tok}
    (X : (Mine.hd.heap_39 w.params).In s.heap) (T : Top p loose mean mg mb s.heap) (hdp : dp + 1 < recursionLimit) (hu : un + 40 < cLine) (h1 : n < 16 ^ 15)
    (hQ : Ret s Q fun t => .bytes (i2ap n).toArray t) : wpAny (model PR w) (MA dp un fr gd) (call (.ref 28) [.int (n : Int) tk]) Q E s := by
  walk_at "mine fill"
  k_dflt (refine' call_my (binds := [("num", .int (n : Int) tk)]) ?k3 ?k5 ?k6 ?k7 ?k8 ?k9 ?kB ?_ ?c2 ?c3 ?c4 ?c5; walk_at "mine sides"; intro L' h' tk' F' N'; (try dsimp only))
  walk_at "mine steps"
  rename_i FF NN
  refine while_ind (C := fun m s' => ∃ h mm k v tk, s' = { s with heap := h, toks := tk } ∧ Fr s.heap L' h mm ∧ News s.heap L' h [] ∧ IntAt mm "num" ((k : Nat) : Int) ∧ BytesAt mm "AP" apL ∧ BytesAt mm "val" v ∧
    i2ap n = i2ap k ++ v ∧ (∃ j, k < 16 ^ j ∧ v.length + j ≤ 16) ∧ m = k) n ?_ ?_ ?_
  · refine ⟨_, _, n, [], _, rfl, FF, NN, ?_, ?_, ?_, by simp, ⟨15, h1, by simp⟩, rfl⟩ <;> walk_at "mine at"
    · omega
    · rfl
    · rfl
  · clear FF NN
    rintro m s' ⟨h, mm, k, v, tk2, rfl, FF, NN, ⟨t, hnum⟩, ⟨ta, hap⟩, ⟨tv, hval⟩, hi, ⟨j, hj1, hj2⟩, rfl⟩
    walk_at "mine steps"
    by_cases h0 : m = 0
    · subst h0
      refine WhlIf.no (by rfl) ?_
      walk_at "mine steps"
      rw [i2ap_zero, List.nil_append] at hi
      rw [← hi]
      exact hQ _ _ _ FF.keep
    · refine WhlIf.yes (by simpa using h0) ?_
      have hmod : ((m : Int).fmod 16) = ((m % 16 : Nat) : Int) := by
        rw [Int.fmod_eq_emod_of_nonneg _ (by decide)]; rfl
      have hdiv : ((m : Int).fdiv 16) = ((m / 16 : Nat) : Int) := by
        rw [Int.fdiv_eq_ediv_of_nonneg _ (by decide)]; rfl
      have hpick := ap_pick (m % 16) (Nat.mod_lt _ (by decide))
      have hps : (KBy.picked apL.toArray (some ((m : Int).fmod 16)) (some ((m : Int).fmod 16 + 1))).size + v.toArray.size ≤ 16777216 := by
        rw [hmod, hpick]; simp; omega
      walk_at "mine steps"
      refine ⟨m / 16, by omega, _, _, m / 16, hx (m % 16) :: v, _, rfl, by assumption, News.nil, ?_, ?_, ?_, ?_, ?_, rfl⟩
      · walk_at "mine at"
        exact hdiv
      · walk_at "mine at"
        rfl
      · walk_at "mine at"
        rw [hmod, hpick]
        simp
      · rw [hi, i2ap_pos h0, List.append_assoc]; rfl
      · cases j with
        | zero => omega
        | succ j => refine ⟨j, ?_, ?_⟩; (rw [Nat.pow_succ] at hj1; omega); (simp only [List.length_cons]; omega)
  · exact PassesOwn.never
end
end
theorem top_off_F2 : True := by (w_top off; trivial)
local macro_rules | `(tactic| walk_at "call ref") => `(tactic| ((with_reducible show wpAny _ _ (call (Value.ref 28) _) _ _ _); k_dflt (refine' int2ap_call ?X ?T ?d ?u ?h1 ?_; (case X => k_in); (case T => walk_at "mine T"); (case d => walk_at "mine room"); (case u => walk_at "mine units"); (case h1 => assumption)); walk_at "mine back"))
section
set_option maxRecDepth 100000
section
variable {w : World} {p : Program} {loose : List Str} {mean : ExcName → Option Value} {mg mb : Str → Option Value} {dp un : Nat} {fr : Option (List Env)} {gd : Option (List Code)} {E Q : Value → Shared → Prop} {s : Shared}
set_option maxHeartbeats 4000000 in
theorem letters_call {r : List UInt8} {tk : Tok}
    (X : (Mine.hd.heap_39 w.params).In s.heap) (T : Top p loose mean mg mb s.heap) (hdp : dp + 2 < recursionLimit) (hu : un + 80 < cLine) (h1 : r.length ≤ 6)
    (hQ : Ret s Q fun t => .bytes (due r).toArray t) : wpAny (model PR w) (MA dp un fr gd) (call (.ref 137) [.bytes r.toArray tk]) Q E s := by
  walk_at "mine fill"
  k_dflt (refine' call_my (binds := [("row", .bytes r.toArray tk)]) ?k3 ?k5 ?k6 ?k7 ?k8 ?k9 ?kB ?_ ?c2 ?c3 ?c4 ?c5; walk_at "mine sides"; intro L' h' tk' F' N'; (try dsimp only))
  walk_at "mine steps"
  rename_i FF NN
  refine For_invVF FF rfl rfl ?_ (by intro _; rfl) PassesOwn.never
  walk_at "mine steps"
  refine for_bytes (news := []) (m₀ := _) (fun i m nx => nx = [] ∧ IntAt m "number" ((rn (r.take i) : Nat) : Int)) rfl FF NN ⟨rfl, ?_⟩ ?_ ?_
  · walk_at "mine at"; rfl
  · clear FF NN
    rintro i c t m₁ nx h tk2 own hc - ⟨rfl, ⟨t2, hn⟩⟩ F1 N1
    rw [List.nil_append] at N1
    have hlt : i < r.length := by
      have := (Array.getElem?_eq_some_iff.mp hc).1
      simpa using this
    have hb : rn (r.take i) < 2 * 256 ^ 6 := by
      have h2 := rn_lt (r.take i)
      have h3 : (r.take i).length ≤ 6 := by rw [List.length_take]; omega
      exact Nat.lt_of_lt_of_le h2 (Nat.mul_le_mul_left _ (Nat.pow_le_pow_right (by decide) h3))
    have hc2 := c.toNat_lt
    walk_at "mine steps"
    refine inv_nil (by assumption) (by assumption) ⟨rfl, ?_⟩
    walk_at "mine at"
    have e : r.take (i + 1) = r.take i ++ [c] := by
      have h5 : r[i]? = some c := by simpa using hc
      rw [List.take_add_one, h5]; rfl
    rw [e, rn_snoc]; push_cast; rfl
  · rintro m₁ nx h tk2 ⟨rfl, ⟨t2, hn⟩⟩ F1 N1
    have e : r.take r.toArray.size = r := by simp
    rw [e] at hn
    have hlt : rn r < 16 ^ 15 := Nat.lt_of_lt_of_le (rn_lt r) (Nat.le_trans (Nat.mul_le_mul_left 2 (Nat.pow_le_pow_right (by decide) h1)) (by decide))
    walk_at "mine steps"
    rw [i2ap_rn]
    exact hQ _ _ _ (Fr.keep (by assumption))
end
end
theorem top_off_F3 : True := by (w_top off; trivial)
section
set_option maxRecDepth 100000
section
variable {w : World} {p : Program} {loose : List Str} {mean : ExcName → Option Value} {mg mb : Str → Option Value} {dp un : Nat} {fr : Option (List Env)} {gd : Option (List Code)} {E Q : Value → Shared → Prop} {s : Shared}
set_option maxHeartbeats 4000000 in
theorem cmp_call {x y : List UInt8} {t1 t2 : Tok}
    (X : (Mine.hd.heap_39 w.params).In s.heap) (T : Top p loose mean mg mb s.heap) (hdp : dp + 1 < recursionLimit)
    (hQ : Ret s Q fun t => .int (cmpInt x y) t) : wpAny (model PR w) (MA dp un fr gd) (call (.ref 123) [.bytes x.toArray t1, .bytes y.toArray t2]) Q E s := by
  walk_at "mine fill"
  k_dflt (refine' call_my (binds := [("x", .bytes x.toArray t1), ("y", .bytes y.toArray t2)]) ?k3 ?k5 ?k6 ?k7 ?k8 ?k9 ?kB ?_ ?c2 ?c3 ?c4 ?c5; walk_at "mine sides"; intro L' h' tk' F' N'; (try dsimp only))
  walk_at "mine steps"
  exact hQ _ _ _ (Fr.keep (by assumption))
end
end
theorem top_off_F4 : True := by (w_top off; trivial)
section
set_option maxRecDepth 100000
section
variable {w : World} {p : Program} {loose : List Str} {mean : ExcName → Option Value} {mg mb : Str → Option Value} {dp un : Nat} {fr : Option (List Env)} {gd : Option (List Code)} {E Q : Value → Shared → Prop} {s : Shared}
set_option maxHeartbeats 4000000 in
theorem due_call {r : List UInt8} {tk : Tok}
    (X : (Mine.hd.heap_39 w.params).In s.heap) (T : Top p loose mean mg mb s.heap) (hdp : dp + 2 < recursionLimit) (hu : un + 80 < cLine) (h1 : r.length ≤ 6)
    (hQ : Ret s Q fun t => .bytes (due r).toArray t) : wpAny (model PR w) (MA dp un fr gd) (call (.ref 142) [.bytes r.toArray tk]) Q E s := by
  walk_at "mine fill"
  k_dflt (refine' call_myC (binds := [("row", .bytes r.toArray tk)]) ?k3 ?k5 ?k6 ?k7 ?k8 ?k9 ?kB ?kD ?_ ?c2 ?c3 ?c4; walk_at "mine sidesC")
  walk_at "mine steps"
  rename Fr _ _ _ _ => F2
  rename News _ _ _ _ => N2
  rename Obj.data _ = Data.cell (some _) => d2
  k_dflt (refine' lc_imm (n := r.toArray.size) (P := fun i v => ∃ c u, r.toArray[i]? = some c ∧ v = .int ((c.toNat : Nat) : Int) u) (fun _ => true) (fun v y => ∃ c u t, v = Value.int ((UInt8.toNat c : Nat) : Int) u ∧ y = Value.str (twoS c) t) ?hclos ?hcell ?hkind ?hnames ?hx ?_ ?hs; (case hclos => with_unfolding_all rfl); (case hcell => decide); (case hkind => rfl); (case hnames => decide); (case hx => rfl); (case hs => intro _; with_unfolding_all rfl))
  walk_at "mine steps"
  refine ⟨src_bytes rfl, by simp [sizeLine_eq]; omega, ?_, ?_, ?_⟩
  · intro C i v s₃ m₃ E' _ _ _ _ _
    exact wpAny_pure ⟨rfl, _, _, rfl, fun _ _ e => e⟩
  · rintro C i v s₃ m₃ E' ⟨c, u, hc, rfl⟩ - hC hn hm hst
    have hcell : s₃.heap.IsCell _ (some _) := ⟨_, hst _ _ (N2.get (List.Mem.head _)), d2⟩
    generalize ({ heap := _, gens := _, drawn := _, toks := _, os := _ } : Shared).toks = tkl at hcell
    have hc2 := c.toNat_lt
    have hmod : ((c.toNat : Int).fmod 16) = ((c.toNat % 16 : Nat) : Int) := by
      rw [Int.fmod_eq_emod_of_nonneg _ (by decide)]; rfl
    have hdiv : ((c.toNat : Int).fdiv 16) = ((c.toNat / 16 : Nat) : Int) := by
      rw [Int.fdiv_eq_ediv_of_nonneg _ (by decide)]; rfl
    have hsz := letters_size
    have ha : 0 ≤ ((c.toNat : Int).fmod 16) := by omega
    have hb : 0 ≤ ((c.toNat : Int).fdiv 16) := by omega
    have ha' : ((c.toNat : Int).fmod 16).toNat < (Str.ofString "ABCDEFGHIJKLMNOP").cps.size := by omega
    have hb' : ((c.toNat : Int).fdiv 16).toNat < (Str.ofString "ABCDEFGHIJKLMNOP").cps.size := by omega
    walk_at "mine stepsv"
    refine nameKC (by kernel_rfl) hcell ?_ (by kernel_rfl) (by kernel_rfl)
    walk_at "mine stepsv"
    refine nameKL hn hm ?_ (by kernel_rfl) (by kernel_rfl)
    walk_at "mine stepsv"
    refine nameKC (by kernel_rfl) hcell ?_ (by kernel_rfl) (by kernel_rfl)
    walk_at "mine stepsv"
    refine nameKL hn hm ?_ (by kernel_rfl) (by kernel_rfl)
    walk_at "mine stepsv"
    have hx : ((⟨#[(Str.ofString "ABCDEFGHIJKLMNOP").cps.getD ((c.toNat : Int).fdiv 16).toNat 0]⟩ : Str) ++ Txt.item (Str.ofString "ABCDEFGHIJKLMNOP") ((c.toNat : Int).fmod 16)) = twoS c := by
      have e1 := letters_at (c.toNat / 16) (by omega)
      have e2 := letters_item (c.toNat % 16) (by omega)
      rw [hmod, hdiv, e2, Int.toNat_natCast, e1]
      rfl
    rw [hx]
    exact ⟨⟨c, u, _, rfl, rfl⟩, ⟨_, _, rfl, fun _ _ e => e⟩⟩
  · intro D h5 tk5 ys vs hD hpl hlen hP hF hst
    have hall : vs.filter (fun _ => true) = vs := by simp
    rw [hall] at hF
    have hsz : vs.length = r.length := by simpa using hlen
    have hy : StrsAre ys.toList (r.map twoS) := by
      refine strsAre_of (paired_of_get (by rw [← hF.length, hsz, List.length_map]) fun j y x hy hx => ?_)
      obtain ⟨v, hv, hF'⟩ := paired_getR hF hy
      obtain ⟨c, u, hc, rfl⟩ := hP j v hv
      obtain ⟨c', u', t, e, rfl⟩ := hF'
      have hcc : c = c' := by
        injection e with e _
        exact UInt8.toNat_inj.mp (by omega)
      subst hcc
      have hc' : r[j]? = some c := by simpa using hc
      rw [List.getElem?_map, hc'] at hx
      cases hx
      exact ⟨t, rfl⟩
    have F3 := Fr.keeps F2 hst
    walk_at "mine steps"
    refine join_list hpl.isList hy (Nat.le_trans (len_twoS r) (by omega)) fun t6 k6 => ?_
    show wpAny _ _ (binaryOp _ _ _) _ _ _
    refine SB.add (fun t7 k7 => ?_) (by rw [dueS_len, sizeLine_eq]; omega)
    walk_at "mine steps"
    refine encode_ascii (dueS_small r) (by show (dueS r).cps.size ≤ _; rw [dueS_size, sizeLine_eq]; omega) fun t8 k8 => ?_
    have eb : (Str.ofString "B" ++ Txt.join (Str.ofString "") (List.map twoS r)).cps.map (fun x => x.toUInt8) = (due r).toArray := dueS_bytes r
    walk_at "mine steps"
    rw [eb]
    exact hQ _ _ _ F3.keep
end
end
theorem top_off_F5 : True := by (w_top off; trivial)
section
set_option maxRecDepth 100000
section
variable {w : World} {p : Program} {loose : List Str} {mean : ExcName → Option Value} {mg mb : Str → Option Value} {dp un : Nat} {fr : Option (List Env)} {gd : Option (List Code)} {E Q : Value → Shared → Prop} {s : Shared}
set_option maxHeartbeats 4000000 in
theorem signs_call {r : List UInt8} {q : Nat} {tk : Tok}
    (X : (Mine.hd.heap_39 w.params).In s.heap) (T : Top p loose mean mg mb s.heap) (hdp : dp + 2 < recursionLimit) (hu : un + 80 < cLine) (h1 : r.length = 3 * q) (h2 : q ≤ 2)
    (hQ : Ret s Q fun t => .bytes (signs r).toArray t) : wpAny (model PR w) (MA dp un fr gd) (call (.ref 149) [.bytes (due r).toArray tk]) Q E s := by
  walk_at "mine fill"
  k_dflt (refine' call_my (binds := [("letters", .bytes (due r).toArray tk)]) ?k3 ?k5 ?k6 ?k7 ?k8 ?k9 ?kB ?_ ?c2 ?c3 ?c4 ?c5; walk_at "mine sides"; intro L' h' tk' F' N'; (try dsimp only))
  walk_at "mine steps"
  rename Fr _ _ _ _ => FF
  rename News _ _ _ _ => NN
  refine For_invVF FF rfl rfl ?_ (by intro _; rfl) PassesOwn.never
  have hlen := due_length r
  walk_at "mine steps"
  rename IsRange _ _ _ _ _ _ _ _ => hR
  rename Fr _ _ _ _ => F2
  rename News _ _ _ _ => N2
  have hq1 : q ≤ 2 := h2
  refine for_range (n := 2 * q) (news := []) (m₀ := _) (fun i m nx => nx = [] ∧ BytesAt m "letters" (due r) ∧ StrAt m "signs" sgText ∧ StrAt m "text" (textOf (sx3 ((nib r).take (3 * i))))) rfl hR ?_ ?_ F2 N2 ⟨rfl, ?_, ?_, ?_⟩ ?_ ?_
  · have e : ((due r).toArray.size : Int) = 1 + 6 * (q : Int) := by rw [List.size_toArray, hlen, h1]; push_cast; omega
    rw [e]
    have h3 : q = 0 ∨ q = 1 ∨ q = 2 := by omega
    rcases h3 with rfl | rfl | rfl <;> decide
  · have e : ((due r).toArray.size : Int) = 1 + 6 * (q : Int) := by rw [List.size_toArray, hlen, h1]; push_cast; omega
    rw [e]
    have h3 : q = 0 ∨ q = 1 ∨ q = 2 := by omega
    rcases h3 with rfl | rfl | rfl <;> decide
  · walk_at "mine at"; rfl
  · walk_at "mine at"; rfl
  · walk_at "mine at"
    rw [Nat.mul_zero, List.take_zero]; rfl
  · clear F2 N2 hR
    rintro i t m₁ nx h tk2 own hi - ⟨rfl, ⟨t1, hlet⟩, ⟨t2, hsg⟩, ⟨t3, htx⟩⟩ F1 N1
    rw [List.nil_append] at N1
    have hll : (due r).length = 1 + 6 * q := by omega
    have a0 : 0 ≤ (1 + (i : Int) * 3) := by omega
    have a1 : (1 + (i : Int) * 3) < ((due r).length : Int) := by omega
    have b0 : 0 ≤ (1 + (i : Int) * 3) + 1 := by omega
    have b1 : (1 + (i : Int) * 3) + 1 < ((due r).length : Int) := by omega
    have c0 : 0 ≤ (1 + (i : Int) * 3) + 2 := by omega
    have c1 : (1 + (i : Int) * 3) + 2 < ((due r).length : Int) := by omega
    have hfit : (due r).length ≤ 1000000 := by omega
    have hn3 : 3 * i + 2 < (nib r).length := by rw [nib_length]; omega
    have hx := nib_lt r ((nib r).getD (3 * i) 0) (by rw [List.getD_eq_getElem?_getD, List.getElem?_eq_getElem (by omega)]; exact List.getElem_mem _)
    have hy := nib_lt r ((nib r).getD (3 * i + 1) 0) (by rw [List.getD_eq_getElem?_getD, List.getElem?_eq_getElem (by omega)]; exact List.getElem_mem _)
    have hz := nib_lt r ((nib r).getD (3 * i + 2) 0) (by rw [List.getD_eq_getElem?_getD, List.getElem?_eq_getElem (by omega)]; exact List.getElem_mem _)
    have ht : (nib r).take (3 * (i + 1)) = (nib r).take (3 * i) ++ [(nib r).getD (3 * i) 0, (nib r).getD (3 * i + 1) 0, (nib r).getD (3 * i + 2) 0] := by
      have e : 3 * (i + 1) = 3 * i + 1 + 1 + 1 := by omega
      rw [e, List.take_add_one, List.take_add_one, List.take_add_one]
      simp only [List.getD_eq_getElem?_getD, List.getElem?_eq_getElem (show 3 * i < (nib r).length by omega), List.getElem?_eq_getElem (show 3 * i + 1 < (nib r).length by omega), List.getElem?_eq_getElem (show 3 * i + 1 + 1 < (nib r).length by omega), List.getElem?_eq_getElem (show 3 * i + 2 < (nib r).length by omega), Option.toList_some, Option.getD_some, List.append_assoc, List.cons_append, List.nil_append]
    have hs3 : sx3 ((nib r).take (3 * (i + 1))) = sx3 ((nib r).take (3 * i)) ++ [((nib r).getD (3 * i) 0 * 256 + (nib r).getD (3 * i + 1) 0 * 16 + (nib r).getD (3 * i + 2) 0) / 64, ((nib r).getD (3 * i) 0 * 256 + (nib r).getD (3 * i + 1) 0 * 16 + (nib r).getD (3 * i + 2) 0) % 64] := by
      rw [ht]; exact sx3_snoc i _ _ _ _ (by rw [List.length_take]; omega)
    have hlen3 : (sx3 ((nib r).take (3 * i))).length = 2 * i := sx3_length i _ (by rw [List.length_take]; omega)
    have d1 := due_at r (3 * i) (by omega)
    have d2 := due_at r (3 * i + 1) (by omega)
    have d3 := due_at r (3 * i + 2) (by omega)
    generalize (nib r).getD (3 * i) 0 = x at *
    generalize (nib r).getD (3 * i + 1) 0 = y at *
    generalize (nib r).getD (3 * i + 2) 0 = z at *
    have hbits : ((((due r).getD (1 + (i : Int) * 3).toNat 0).toNat : Int) - 65) * 256 + ((((due r).getD (1 + (i : Int) * 3 + 1).toNat 0).toNat : Int) - 65) * 16 + (((due r).getD (1 + (i : Int) * 3 + 2).toNat 0).toNat : Int) - 65 = ((x * 256 + y * 16 + z : Nat) : Int) := by
      have f1 : (1 + (i : Int) * 3).toNat = 3 * i + 1 := by omega
      have f2 : (1 + (i : Int) * 3 + 1).toNat = 3 * i + 1 + 1 := by omega
      have f3 : (1 + (i : Int) * 3 + 2).toNat = 3 * i + 2 + 1 := by omega
      rw [f1, f2, f3, d1, d2, d3]; push_cast; omega
    walk_at "mine stepsx"
    dsimp only
    rw [hbits]
    have hB : x * 256 + y * 16 + z < 4096 := by omega
    generalize x * 256 + y * 16 + z = B at *
    have hmod : ((B : Int).fmod 64) = ((B % 64 : Nat) : Int) := by rw [Int.fmod_eq_emod_of_nonneg _ (by decide)]; rfl
    have hdiv : ((B : Int).fdiv 64) = ((B / 64 : Nat) : Int) := by rw [Int.fdiv_eq_ediv_of_nonneg _ (by decide)]; rfl
    have hsz := sg_size
    have p0 : 0 ≤ ((B : Int).fmod 64) := by omega
    have p1 : ((B : Int).fmod 64).toNat < sgText.cps.size := by omega
    have q0 : 0 ≤ ((B : Int).fdiv 64) := by omega
    have q1 : ((B : Int).fdiv 64).toNat < sgText.cps.size := by omega
    have hfs : sgText.cps.size ≤ 1000000 := by omega
    generalize ({ heap := _, gens := _, drawn := _, toks := _, os := _ } : Shared).toks = tkb
    have hl1 : (textOf (sx3 ((nib r).take (3 * i)))).length = 2 * i := by show (textOf _).cps.size = _; simp only [textOf, List.size_toArray, List.length_map, hlen3]
    have hone : ∀ c : Nat, (⟨#[c]⟩ : Str).length = 1 := fun _ => rfl
    walk_at "mine steps"
    refine inv_nil (by assumption) (by assumption) ⟨rfl, ?_, ?_, ?_⟩
    · walk_at "mine at"; rfl
    · walk_at "mine at"; rfl
    · walk_at "mine at"
      have hit := sg_item (B % 64) (Nat.mod_lt _ (by decide))
      rw [hs3, hmod, hdiv, Int.toNat_natCast, hit]
      have e : ∀ (l : List Nat) (a b : Nat), textOf l ++ (⟨#[sgn a]⟩ : Str) ++ (⟨#[sgn b]⟩ : Str) = textOf (l ++ [a, b]) := fun l a b => by
        apply Str.ext'
        show (textOf l).cps ++ #[sgn a] ++ #[sgn b] = _
        simp [textOf]
      exact e _ _ _
  · rintro m₁ nx h tk2 ⟨rfl, -, -, ⟨t2, hn⟩⟩ F1 N1
    have e1 : (nib r).take (3 * (2 * q)) = nib r := List.take_of_length_le (by rw [nib_length, h1]; omega)
    rw [e1, sx3_nib q r h1] at hn
    walk_at "mine steps"
    refine encode_ascii (textOf_small _) (by show (textOf (six r)).cps.size ≤ _; simp only [textOf, List.size_toArray, List.length_map, six_length q r h1, sizeLine_eq]; omega) fun t8 k8 => ?_
    rw [textOf_bytes]
    exact hQ _ _ _ (Fr.keep F1)
end
end
theorem top_off_F6 : True := by (w_top off; trivial)
section
set_option maxRecDepth 100000
section
variable {w : World} {p : Program} {loose : List Str} {mean : ExcName → Option Value} {mg mb : Str → Option Value} {dp un : Nat} {fr : Option (List Env)} {gd : Option (List Code)} {E Q : Value → Shared → Prop} {s : Shared}
set_option maxHeartbeats 4000000 in
theorem buffer_call {b : List UInt8} {tk : Tok}
    (X : (Mine.hd.heap_39 w.params).In s.heap) (T : Top p loose mean mg mb s.heap) (hdp : dp + 1 < recursionLimit)
    (hQ : Ret s Q fun _ => .bytes b.toArray tk) : wpAny (model PR w) (MA dp un fr gd) (call (.ref 63) [.bytes b.toArray tk]) Q E s := by
  walk_at "mine fill"
  k_dflt (refine' call_my (binds := [("data", .bytes b.toArray tk)]) ?k3 ?k5 ?k6 ?k7 ?k8 ?k9 ?kB ?_ ?c2 ?c3 ?c4 ?c5; walk_at "mine sides"; intro L' h' tk' F' N'; (try dsimp only))
  walk_at "mine steps"
  exact hQ 0 _ _ (Fr.keep (by assumption))
set_option maxHeartbeats 4000000 in
theorem truth_call 
    (X : (Mine.hd.heap_39 w.params).In s.heap) (T : Top p loose mean mg mb s.heap) (hdp : dp + 1 < recursionLimit)
    (hQ : Ret s Q fun _ => .bool false) : wpAny (model PR w) (MA dp un fr gd) (call (.ref 70) [.bool false]) Q E s := by
  walk_at "mine fill"
  k_dflt (refine' call_my (binds := [("x", .bool false)]) ?k3 ?k5 ?k6 ?k7 ?k8 ?k9 ?kB ?_ ?c2 ?c3 ?c4 ?c5; walk_at "mine sides"; intro L' h' tk' F' N'; (try dsimp only))
  walk_at "mine steps"
  exact hQ 0 _ _ (Fr.keep (by assumption))
set_option maxHeartbeats 4000000 in
theorem ascii_call {b : List UInt8} {tk : Tok}
    (X : (Mine.hd.heap_39 w.params).In s.heap) (T : Top p loose mean mg mb s.heap) (hdp : dp + 1 < recursionLimit)
    (hQ : Ret s Q fun _ => .bytes b.toArray tk) : wpAny (model PR w) (MA dp un fr gd) (call (.ref 56) [.bytes b.toArray tk]) Q E s := by
  walk_at "mine fill"
  k_dflt (refine' call_my (binds := [("data", .bytes b.toArray tk)]) ?k3 ?k5 ?k6 ?k7 ?k8 ?k9 ?kB ?_ ?c2 ?c3 ?c4 ?c5; walk_at "mine sides"; intro L' h' tk' F' N'; (try dsimp only))
  walk_at "mine steps"
  exact hQ 0 _ _ (Fr.keep (by assumption))
set_option maxHeartbeats 4000000 in
theorem fdd_call {b : List UInt8} {tk : Tok}
    (X : (Mine.hd.heap_39 w.params).In s.heap) (T : Top p loose mean mg mb s.heap) (hdp : dp + 1 < recursionLimit)
    (hQ : Ret s Q fun _ => .bytes b.toArray tk) : wpAny (model PR w) (MA dp un fr gd) (call (.ref 36) [.bytes b.toArray tk]) Q E s := by
  walk_at "mine fill"
  k_dflt (refine' call_my (binds := [("s", .bytes b.toArray tk)]) ?k3 ?k5 ?k6 ?k7 ?k8 ?k9 ?kB ?_ ?c2 ?c3 ?c4 ?c5; walk_at "mine sides"; intro L' h' tk' F' N'; (try dsimp only))
  walk_at "mine steps"
  exact hQ 0 _ _ (Fr.keep (by assumption))
end
end
theorem top_off_F7 : True := by (w_top off; trivial)
local macro_rules | `(tactic| walk_at "call ref") => `(tactic| ((with_reducible show wpAny _ _ (call (Value.ref 63) _) _ _ _); k_dflt (refine' buffer_call ?X ?T ?d ?_; (case X => k_in); (case T => walk_at "mine T"); (case d => walk_at "mine room")); walk_at "mine back"))
local macro_rules | `(tactic| walk_at "call ref") => `(tactic| ((with_reducible show wpAny _ _ (call (Value.ref 70) _) _ _ _); k_dflt (refine' truth_call ?X ?T ?d ?_; (case X => k_in); (case T => walk_at "mine T"); (case d => walk_at "mine room")); walk_at "mine back"))
section
set_option maxRecDepth 100000
section
variable {w : World} {p : Program} {loose : List Str} {mean : ExcName → Option Value} {mg mb : Str → Option Value} {dp un : Nat} {fr : Option (List Env)} {gd : Option (List Code)} {E Q : Value → Shared → Prop} {s : Shared}
set_option maxHeartbeats 4000000 in
theorem b2a_call {r : List UInt8} {q : Nat} {tk : Tok}
    (X : (Mine.hd.heap_39 w.params).In s.heap) (T : Top p loose mean mg mb s.heap) (hdp : dp + 2 < recursionLimit) (h1 : r.length = 3 * q) (h2 : q ≤ 2)
    (hQ : Ret s Q fun t => .bytes (signs r).toArray t) : wpAny (model PR w) (MA dp un fr gd) (call (.ref 93) [.bytes r.toArray tk] [("newline", .bool false)]) Q E s := by
  walk_at "mine fill"
  k_dflt (refine' call_my (binds := [("data", .bytes r.toArray tk), ("newline", .bool false)]) ?k3 ?k5 ?k6 ?k7 ?k8 ?k9 ?kB ?_ ?c2 ?c3 ?c4 ?c5; walk_at "mine sides"; intro L' h' tk' F' N'; (try dsimp only))
  walk_at "mine steps"
  rename Fr _ _ _ _ => FF
  rename News _ _ _ _ => NN
  refine For_invVF FF rfl rfl ?_ (by intro _; rfl) PassesOwn.never
  walk_at "mine steps"
  rename_i D hb2 _ _ _ _ _ _
  refine for_bytes (news := [(D, W.listOf #[] 0)]) (m₀ := _) (fun i m nx => ∃ n vs lc lb, nx = [(D, W.listOf (List.toArray vs) n)] ∧ m "out" = some (.ref D) ∧ m "newline" = some (.bool false) ∧ IntsAre vs ((em (r.take i)).map fun k => ((sgn k : Nat) : Int)) ∧ IntAt m "leftbits" ((lb : Nat) : Int) ∧ IntAt m "leftchar" ((lc : Nat) : Int) ∧ lc < 65536 ∧ PhB r i lb lc) rfl FF NN ⟨0, [], 0, 0, rfl, ?_, ?_, .nil, ?_, ?_, by decide, .inl ⟨rfl, rfl⟩⟩ ?_ ?_
  · walk_at "mine look"
  · walk_at "mine look"
  · walk_at "mine at"; rfl
  · walk_at "mine at"; rfl
  · clear FF NN
    rintro i c t m₁ nx h tk2 own hc hoff ⟨n, vs, lc, lb, rfl, hout, hnl, hvs, ⟨t1, hlb⟩, ⟨t2, hlc⟩, hlt, hph⟩ F1 N1
    have hc2 := c.toNat_lt
    walk_at "mine steps"
    have hstep : Builtin.bitAnd (Builtin.bitOr ((lc : Int) * 2 ^ Int.toNat 8) (c.toNat : Int)) 65535 = ((lc % 256 * 256 + c.toNat : Nat) : Int) := by
      have e1 : ((lc : Int) * 2 ^ Int.toNat 8) = ((lc * 2 ^ 8 : Nat) : Int) := by push_cast; rfl
      rw [e1, bitOr_glue lc c.toNat 8 (by omega), bitAnd_m16]; omega
    rename Fr _ _ _ _ => F2
    rename News _ _ _ _ => N2
    have hlc' : lc % 256 * 256 + c.toNat < 65536 := by omega
    refine while_ind (C := fun k s' => ∃ h mm n2 vs2 lb2 es tk, s' = { s with heap := h, toks := tk } ∧ Fr s.heap L' h mm ∧ News s.heap L' h ([(D, W.listOf (List.toArray vs2) n2)] ++ own) ∧ mm "out" = some (.ref D) ∧ mm "newline" = some (.bool false) ∧
      IntsAre vs2 (es.map fun k => ((sgn k : Nat) : Int)) ∧ IntAt mm "leftbits" ((lb2 : Nat) : Int) ∧ IntAt mm "leftchar" ((lc % 256 * 256 + c.toNat : Nat) : Int) ∧ lb2 ≤ 12 ∧
      es ++ rest (lc % 256 * 256 + c.toNat) 3 lb2 = em (r.take i) ++ rest (lc % 256 * 256 + c.toNat) 3 (lb + 8) ∧ lb2 % 6 = (lb + 8) % 6 ∧ es.length ≤ 30 ∧ k = lb2) (lb + 8) ?_ ?_ PassesOwn.never
    · refine ⟨_, _, n, vs, lb + 8, em (r.take i), _, rfl, F2, N2, ?_, ?_, hvs, ?_, ?_, ?_, rfl, rfl, ?_, rfl⟩
      · walk_at "mine look"
      · walk_at "mine look"
      · walk_at "mine at"; push_cast; rfl
      · walk_at "mine at"; exact hstep
      · rcases hph with h | h | h <;> omega
      · have := em_length (r.take i)
        have h9 : (r.take i).length ≤ 6 := by rw [List.length_take]; omega
        omega
    · clear F2 N2 F1 N1 hvs hlb hlc hnl hout
      rintro k s' ⟨h, mm, n2, vs2, lb2, es, tk5, rfl, F2, N2, hout, hnl, hvs2, ⟨t5, hlb2⟩, ⟨t6, hlc2⟩, hle, hes, hmod, hel, rfl⟩
      walk_at "mine steps"
      by_cases h6 : 6 ≤ k
      · refine WhlIf.yes (by simp; omega) ?_
        have hsm := shift_mask (lc % 256 * 256 + c.toNat) k h6
        have hX : (lc % 256 * 256 + c.toNat) / 2 ^ (k - 6) % 64 < 64 := Nat.mod_lt _ (by decide)
        have hrg := rest_go (lc % 256 * 256 + c.toNat) k h6 hle
        generalize (lc % 256 * 256 + c.toNat) / 2 ^ (k - 6) % 64 = x at hsm hX hrg
        have a0 : 0 ≤ Builtin.bitAnd ((((lc % 256 * 256 + c.toNat : Nat)) : Int).fdiv (2 ^ (((k : Nat) : Int) - 6).toNat)) 63 := by omega
        have a1 : Builtin.bitAnd ((((lc % 256 * 256 + c.toNat : Nat)) : Int).fdiv (2 ^ (((k : Nat) : Int) - 6).toNat)) 63 < ((b64L.length : Nat) : Int) := by
          have : b64L.length = 64 := rfl
          omega
        have hoff' : OwnOff own [D] := hoff
        have hvl : vs2.toArray.size ≤ sizeLine := by
          have h9 := hvs2.length
          rw [List.length_map] at h9
          rw [List.size_toArray, h9, sizeLine_eq]; omega
        dsimp only [List.cons_append, List.nil_append] at N2
        walk_at "mine steps"
        rename Fr _ _ _ _ => F3
        rename News _ _ _ _ => N3
        rw [List.push_toArray] at N3
        have hv : (((b64L.getD (Builtin.bitAnd ((((lc % 256 * 256 + c.toNat : Nat)) : Int).fdiv (2 ^ (((k : Nat) : Int) - 6).toNat)) 63).toNat 0).toNat : Nat) : Int) = ((sgn x : Nat) : Int) := by
          rw [hsm, Int.toNat_natCast, b64_at x hX]
        refine ⟨k - 6, by omega, _, _, n2 + 1, _, k - 6, es ++ [x], _, rfl, F3, N3, ?_, ?_, ?_, ?_, ?_, by omega, ?_, by omega, ?_, rfl⟩
        · walk_at "mine look"
        · walk_at "mine look"
        · rw [List.map_append]
          refine intsAre_snoc' hvs2 ?_
          exact hv
        · walk_at "mine at"; omega
        · walk_at "mine at"; rfl
        · rw [List.append_assoc, ← hes, hrg]; rfl
        · have := congrArg List.length hes
          rw [List.length_append, List.length_append, hrg, List.length_cons] at this
          have g1 := rest_length (lc % 256 * 256 + c.toNat) 3 (lb + 8)
          have g2 := em_length (r.take i)
          have g3 : (r.take i).length ≤ 6 := by rw [List.length_take]; omega
          rw [List.length_append, List.length_cons, List.length_nil]
          omega
      · refine WhlIf.no (by simp; omega) ?_
        walk_at "mine steps"
        have hc' : r[i]? = some c := by simpa using hc
        obtain ⟨e1, e2⟩ := phB_step hc' hph (by omega) hmod
        rw [rest_stop _ 2 k (by omega), List.append_nil] at hes
        rw [hes, e1] at hvs2
        refine InvEndG.intro F2 N2 ⟨n2, vs2, _, k, rfl, hout, hnl, hvs2, ⟨_, hlb2⟩, ⟨_, hlc2⟩, hlc', e2⟩ hoff (fun p hp => ?_) fun p hp => ?_
        · exact List.mem_append_left _ hp
        · exact List.mem_append_right _ hp
  · rintro m₁ nx h tk2 ⟨n, vs, lc, lb, rfl, hout, hnl, hvs, ⟨t1, hlb⟩, -, -, hph⟩ F1 N1
    have hsz : r.toArray.size = r.length := by simp
    rw [hsz] at hvs hph
    have hlb0 : lb = 0 := by
      rcases hph with h | h | h <;> omega
    subst hlb0
    have hlb' : m₁ "leftbits" = some (.int 0 t1) := hlb
    clear hlb
    rw [List.take_length, em_six q r h1] at hvs
    walk_at "mine steps"
    have hl : h.IsList D vs.toArray := ⟨_, (N1 _ (List.Mem.head _)).1, rfl, n, rfl⟩
    refine bytes_K F1 N1 hl hvs ?_ ?_ rfl fun h6 t6 k6 F6 N6 _ => ?_
    · intro n hn
      obtain ⟨k, _, rfl⟩ := List.mem_map.mp hn
      have := sgn_lt k
      omega
    · rw [hvs.length, List.length_map, six_length q r h1, sizeLine_eq]; omega
    · have e : (((six r).map fun k => ((sgn k : Nat) : Int)).map fun n => n.toNat.toUInt8) = signs r := by
        rw [List.map_map]; rfl
      rw [e]
      walk_at "mine steps"
      exact hQ _ _ _ F6.keep
end
end
theorem top_off_F8 : True := by (w_top off; trivial)
local macro_rules | `(tactic| walk_at "call ref") => `(tactic| ((with_reducible show wpAny _ _ (call (Value.ref 93) _ _) _ _ _); k_dflt (refine' b2a_call ?X ?T ?d ?h1 ?h2 ?_; (case X => k_in); (case T => walk_at "mine T"); (case d => walk_at "mine room"); (case h1 => assumption); (case h2 => assumption)); walk_at "mine back"))
section
set_option maxRecDepth 100000
section
variable {w : World} {p : Program} {loose : List Str} {mean : ExcName → Option Value} {mg mb : Str → Option Value} {dp un : Nat} {fr : Option (List Env)} {gd : Option (List Code)} {E Q : Value → Shared → Prop} {s : Shared}
set_option maxHeartbeats 4000000 in
theorem enc_call {r : List UInt8} {q : Nat} {tk : Tok}
    (X : (Mine.hd.heap_39 w.params).In s.heap) (T : Top p loose mean mg mb s.heap) (hdp : dp + 3 < recursionLimit) (h1 : r.length = 3 * q) (h2 : q ≤ 2)
    (hQ : Ret s Q fun t => .bytes (signs r).toArray t) : wpAny (model PR w) (MA dp un fr gd) (call (.ref 101) [.bytes r.toArray tk]) Q E s := by
  walk_at "mine fill"
  k_dflt (refine' call_my (binds := [("s", .bytes r.toArray tk), ("altchars", .none)]) ?k3 ?k5 ?k6 ?k7 ?k8 ?k9 ?kB ?_ ?c2 ?c3 ?c4 ?c5; walk_at "mine sides"; intro L' h' tk' F' N'; (try dsimp only))
  walk_at "mine steps"
  exact hQ _ _ _ (Fr.keep (by assumption))
set_option maxHeartbeats 4000000 in
theorem val_call {c : Nat} {k : Nat} {tk : Tok}
    (X : (Mine.hd.heap_39 w.params).In s.heap) (T : Top p loose mean mg mb s.heap) (hdp : dp + 1 < recursionLimit) (hk : k < 64) (hc : c = sgn k)
    (hQ : Ret s Q fun t => .int ((k : Nat) : Int) t) : wpAny (model PR w) (MA dp un fr gd) (call (.ref 77) [.int ((c : Nat) : Int) tk]) Q E s := by
  walk_at "mine fill"
  k_dflt (refine' call_my (binds := [("c", .int ((c : Nat) : Int) tk)]) ?k3 ?k5 ?k6 ?k7 ?k8 ?k9 ?kB ?_ ?c2 ?c3 ?c4 ?c5; walk_at "mine sides"; intro L' h' tk' F' N'; (try dsimp only))
  have hcases := sgn_cases k hk
  rw [← hc] at hcases
  walk_at "mine steps"
  all_goals exact val_ret hQ (by omega) (Fr.keep (by assumption))
end
end
theorem top_off_F9 : True := by (w_top off; trivial)
local macro_rules | `(tactic| walk_at "call ref") => `(tactic| ((with_reducible show wpAny _ _ (call (Value.ref 77) _) _ _ _); k_dflt (refine' val_call ?X ?T ?d ?hk ?hc ?_; (case X => k_in); (case T => walk_at "mine T"); (case d => walk_at "mine room"); (case hc => assumption); (case hk => assumption)); walk_at "mine back"))
local macro_rules | `(tactic| walk_at "call ref") => `(tactic| ((with_reducible show wpAny _ _ (call (Value.ref 56) _) _ _ _); k_dflt (refine' ascii_call ?X ?T ?d ?_; (case X => k_in); (case T => walk_at "mine T"); (case d => walk_at "mine room")); walk_at "mine back"))
local macro_rules | `(tactic| walk_at "call ref") => `(tactic| ((with_reducible show wpAny _ _ (call (Value.ref 70) _) _ _ _); k_dflt (refine' truth_call ?X ?T ?d ?_; (case X => k_in); (case T => walk_at "mine T"); (case d => walk_at "mine room")); walk_at "mine back"))
section
set_option maxRecDepth 100000
section
variable {w : World} {p : Program} {loose : List Str} {mean : ExcName → Option Value} {mg mb : Str → Option Value} {dp un : Nat} {fr : Option (List Env)} {gd : Option (List Code)} {E Q : Value → Shared → Prop} {s : Shared}
set_option maxHeartbeats 4000000 in
theorem a2b_call {r : List UInt8} {q : Nat} {tk : Tok}
    (X : (Mine.hd.heap_39 w.params).In s.heap) (T : Top p loose mean mg mb s.heap) (hdp : dp + 2 < recursionLimit) (h1 : r.length = 3 * q) (h2 : q ≤ 2)
    (hQ : Ret s Q fun t => .bytes r.toArray t) : wpAny (model PR w) (MA dp un fr gd) (call (.ref 85) [.bytes (signs r).toArray tk] [("strict_mode", .bool false)]) Q E s := by
  walk_at "mine fill"
  k_dflt (refine' call_my (binds := [("data", .bytes (signs r).toArray tk), ("strict_mode", .bool false)]) ?k3 ?k5 ?k6 ?k7 ?k8 ?k9 ?kB ?_ ?c2 ?c3 ?c4 ?c5; walk_at "mine sides"; intro L' h' tk' F' N'; (try dsimp only))
  walk_at "mine steps"
  rename Fr _ _ _ _ => FF
  rename News _ _ _ _ => NN
  refine For_invVF FF rfl rfl ?_ (by intro _; rfl) PassesOwn.never
  walk_at "mine steps"
  rename_i D _ _ _ _ _ _ _ _ _ _ _
  refine for_bytes (news := [(D, W.listOf #[] 0)]) (m₀ := _) (fun j m nx => ∃ n vs lf, nx = [(D, W.listOf (List.toArray vs) n)] ∧ m "out" = some (.ref D) ∧ m "strict_mode" = some (.bool false) ∧ IntsAre vs ((dq ((six r).take j)).map fun k => ((k : Nat) : Int)) ∧ IntAt m "quad_pos" ((j % 4 : Nat) : Int) ∧ IntAt m "leftchar" ((lf : Nat) : Int) ∧ IntAt m "pads" 0 ∧ IntAt m "i" ((j : Nat) : Int) ∧ lf < 64 ∧ PhA (six r) j lf) rfl FF NN ⟨0, [], 0, rfl, ?_, ?_, .nil, ?_, ?_, ?_, ?_, by decide, .inl rfl⟩ ?_ ?_
  · walk_at "mine look"
  · walk_at "mine look"
  · walk_at "mine at"; rfl
  · walk_at "mine at"; rfl
  · walk_at "mine at"; rfl
  · walk_at "mine at"; rfl
  · clear FF NN
    rintro j c t m₁ nx h tk2 own hc hoff ⟨n, vs, lf, rfl, hout, hnl, hvs, ⟨t1, hqp⟩, ⟨t2, hlf⟩, ⟨t3, hpd⟩, ⟨t4, hi⟩, hlt, hph⟩ F1 N1
    have hc' : (signs r)[j]? = some c := by simpa using hc
    obtain ⟨k, hk, hck⟩ := signs_get hc'
    have hk64 : k < 64 := six_lt q r h1 k (List.mem_of_getElem? hk)
    have hcs := sgn_cases k hk64
    have h61 : (c.toNat : Int) ≠ 61 := by omega
    have hoff' : OwnOff own [D] := hoff
    have hvl : vs.toArray.size ≤ sizeLine := by
      have h9 := hvs.length
      rw [List.length_map] at h9
      have h10 := dq_length _ ((six r).take j) (Nat.le_refl _)
      have h11 : ((six r).take j).length ≤ 4 * q := by rw [List.length_take, six_length q r h1]; omega
      rw [List.size_toArray, h9, sizeLine_eq]; omega
    dsimp only [List.cons_append, List.nil_append] at N1
    have hj4 : j % 4 = 0 ∨ j % 4 = 1 ∨ j % 4 = 2 ∨ j % 4 = 3 := by omega
    rcases hj4 with h4 | h4 | h4 | h4
    · rw [h4] at hqp
      have hqp' : m₁ "quad_pos" = some (.int 0 t1) := hqp
      clear hqp hcs
      have hll := lf_lt (six_lt q r h1) (j := j) (lf := lf)
      have hds := dq_step hk hph
      walk_at "mine steps"
      all_goals first | exact absurd (by assumption) h61 | skip
      rename Fr _ _ _ _ => F3
      rename News _ _ _ _ => N3
      refine inv_one F3 N3 hoff' ⟨n, vs, k, rfl, ?_, ?_, ?_, ?_, ?_, ?_, ?_, hk64, .inr (.inl ⟨by omega, k, hk, rfl⟩)⟩
      · walk_at "mine look"
      · walk_at "mine look"
      · rw [hds.1 h4]; exact hvs
      · walk_at "mine at"; omega
      · walk_at "mine at"; rfl
      · walk_at "mine at"; rfl
      · walk_at "mine at"; push_cast; rfl
    · rw [h4] at hqp
      have hqp' : m₁ "quad_pos" = some (.int 1 t1) := hqp
      clear hqp hcs
      have hll := lf_lt (six_lt q r h1) (j := j) (lf := lf)
      have hds := dq_step hk hph
      walk_at "mine steps"
      all_goals first | exact absurd (by assumption) h61 | skip
      rename Fr _ _ _ _ => F3
      rename News _ _ _ _ => N3
      have hv : Builtin.bitOr ((lf : Int) * 2 ^ Int.toNat 2) ((k : Int).fdiv (2 ^ Int.toNat 4)) = ((lf * 4 + k / 16 : Nat) : Int) := glue_shift lf k 2 4 (by omega)
      rw [List.push_toArray] at N3
      refine inv_one F3 N3 hoff' ⟨n + 1, _, (k % 16), rfl, ?_, ?_, ?_, ?_, ?_, ?_, ?_, by omega, .inr (.inr (.inl ⟨by omega, k, hk, rfl⟩))⟩
      · walk_at "mine look"
      · walk_at "mine look"
      · rw [hds.2.1 h4, List.map_append]; exact intsAre_snoc' hvs hv
      · walk_at "mine at"; omega
      · walk_at "mine at"; rw [bitAnd_m4]; push_cast; rfl
      · walk_at "mine at"; rfl
      · walk_at "mine at"; push_cast; rfl
    · rw [h4] at hqp
      have hqp' : m₁ "quad_pos" = some (.int 2 t1) := hqp
      clear hqp hcs
      have hll := lf_lt (six_lt q r h1) (j := j) (lf := lf)
      have hds := dq_step hk hph
      walk_at "mine steps"
      all_goals first | exact absurd (by assumption) h61 | skip
      rename Fr _ _ _ _ => F3
      rename News _ _ _ _ => N3
      have hv : Builtin.bitOr ((lf : Int) * 2 ^ Int.toNat 4) ((k : Int).fdiv (2 ^ Int.toNat 2)) = ((lf * 16 + k / 4 : Nat) : Int) := glue_shift lf k 4 2 (by omega)
      rw [List.push_toArray] at N3
      refine inv_one F3 N3 hoff' ⟨n + 1, _, (k % 4), rfl, ?_, ?_, ?_, ?_, ?_, ?_, ?_, by omega, .inr (.inr (.inr ⟨by omega, k, hk, rfl⟩))⟩
      · walk_at "mine look"
      · walk_at "mine look"
      · rw [hds.2.2.1 h4, List.map_append]; exact intsAre_snoc' hvs hv
      · walk_at "mine at"; omega
      · walk_at "mine at"; rw [bitAnd_m2]; push_cast; rfl
      · walk_at "mine at"; rfl
      · walk_at "mine at"; push_cast; rfl
    · rw [h4] at hqp
      have hqp' : m₁ "quad_pos" = some (.int 3 t1) := hqp
      clear hqp hcs
      have hll := lf_lt (six_lt q r h1) (j := j) (lf := lf)
      have hds := dq_step hk hph
      walk_at "mine steps"
      all_goals first | exact absurd (by assumption) h61 | skip
      rename Fr _ _ _ _ => F3
      rename News _ _ _ _ => N3
      have hv : Builtin.bitOr ((lf : Int) * 2 ^ Int.toNat 6) (k : Int) = ((lf * 64 + k : Nat) : Int) := glue_or lf k 6 hk64
      rw [List.push_toArray] at N3
      refine inv_one F3 N3 hoff' ⟨n + 1, _, 0, rfl, ?_, ?_, ?_, ?_, ?_, ?_, ?_, by decide, .inl (by omega)⟩
      · walk_at "mine look"
      · walk_at "mine look"
      · rw [hds.2.2.2 h4, List.map_append]; exact intsAre_snoc' hvs hv
      · walk_at "mine at"; omega
      · walk_at "mine at"; rfl
      · walk_at "mine at"; rfl
      · walk_at "mine at"; push_cast; rfl
  · rintro m₁ nx h tk2 ⟨n, vs, lf, rfl, hout, hnl, hvs, ⟨t1, hqp⟩, -, ⟨t3, hpd⟩, -, -, -⟩ F1 N1
    have hsz : (signs r).toArray.size = 4 * q := by rw [List.size_toArray, signs_length q r h1]
    rw [hsz] at hvs hqp
    have e4 : 4 * q % 4 = 0 := by omega
    rw [e4] at hqp
    have hqp' : m₁ "quad_pos" = some (.int 0 t1) := hqp
    clear hqp
    rw [List.take_of_length_le (by rw [six_length q r h1]; omega), dq_six q r h1, List.map_map] at hvs
    walk_at "mine steps"
    have hl : h.IsList D vs.toArray := ⟨_, (N1 _ (List.Mem.head _)).1, rfl, n, rfl⟩
    refine bytes_K F1 N1 hl hvs ?_ ?_ rfl fun h6 t6 k6 F6 N6 _ => ?_
    · intro n hn
      obtain ⟨k, _, rfl⟩ := List.mem_map.mp hn
      have := k.toNat_lt
      simp only [Function.comp]
      omega
    · rw [hvs.length, List.length_map, h1, sizeLine_eq]; omega
    · have e : ((r.map ((fun k => ((k : Nat) : Int)) ∘ UInt8.toNat)).map fun n => n.toNat.toUInt8) = r := by
        rw [List.map_map]
        conv => rhs; rw [← List.map_id r]
        apply List.map_congr_left
        intro c _
        simp
      rw [e]
      walk_at "mine steps"
      exact hQ _ _ _ F6.keep
end
end
theorem top_off_F10 : True := by (w_top off; trivial)
local macro_rules | `(tactic| walk_at "call ref") => `(tactic| ((with_reducible show wpAny _ _ (call (Value.ref 36) _) _ _ _); k_dflt (refine' fdd_call ?X ?T ?d ?_; (case X => k_in); (case T => walk_at "mine T"); (case d => walk_at "mine room")); walk_at "mine back"))
local macro_rules | `(tactic| walk_at "call ref") => `(tactic| ((with_reducible show wpAny _ _ (call (Value.ref 85) _ _) _ _ _); k_dflt (refine' a2b_call ?X ?T ?d ?h1 ?h2 ?_; (case X => k_in); (case T => walk_at "mine T"); (case d => walk_at "mine room"); (case h1 => assumption); (case h2 => assumption)); walk_at "mine back"))
section
set_option maxRecDepth 100000
section
variable {w : World} {p : Program} {loose : List Str} {mean : ExcName → Option Value} {mg mb : Str → Option Value} {dp un : Nat} {fr : Option (List Env)} {gd : Option (List Code)} {E Q : Value → Shared → Prop} {s : Shared}
set_option maxHeartbeats 4000000 in
theorem dec_call {r : List UInt8} {q : Nat} {tk : Tok}
    (X : (Mine.hd.heap_39 w.params).In s.heap) (T : Top p loose mean mg mb s.heap) (hdp : dp + 3 < recursionLimit) (h1 : r.length = 3 * q) (h2 : q ≤ 2)
    (hQ : Ret s Q fun t => .bytes r.toArray t) : wpAny (model PR w) (MA dp un fr gd) (call (.ref 109) [.bytes (signs r).toArray tk]) Q E s := by
  walk_at "mine fill"
  k_dflt (refine' call_my (binds := [("s", .bytes (signs r).toArray tk), ("altchars", .none), ("validate", .bool false)]) ?k3 ?k5 ?k6 ?k7 ?k8 ?k9 ?kB ?_ ?c2 ?c3 ?c4 ?c5; walk_at "mine sides"; intro L' h' tk' F' N'; (try dsimp only))
  walk_at "mine steps"
  exact hQ _ _ _ (Fr.keep (by assumption))
end
end
section
set_option maxRecDepth 100000
section
variable {w : World} {A₀ A : Around} {s s' : Shared} {G : Heap} {L L' : Addr} {oL : Obj} {env₀ : Env} {name : Str} {scope : Scope} {a : Addr} {cd : Value} {D : (Str → Option Value) → List (Addr × Obj) → Prop} {e : Value} {E : Value → Shared → Prop}

/-- an IndexError held here -/
def HeldP (D : (Str → Option Value) → List (Addr × Obj) → Prop) (s : Shared) (G : Heap) (L' L : Addr) (oL : Obj) (fl : Value) (e : Value) (s' : Shared) : Prop :=
  ∃ x m new sl h' tk, e = .ref x ∧ s' = { s with heap := h', toks := tk } ∧ D m new ∧ TLg.AllNe L new ∧ TT.HeldNA G L' h' m x "IndexError" (new ++ [(L, { oL with slots := sl })]) fl
/-- an IndexError on its way: new, or held here -/
def RaisedP (D : (Str → Option Value) → List (Addr × Obj) → Prop) (s : Shared) (G : Heap) (L' L : Addr) (oL : Obj) (e : Value) (s' : Shared) : Prop :=
  (∃ x m new sl h h' tk, e = .ref x ∧ s' = { s with heap := h', toks := tk } ∧ D m new ∧ TLg.AllNe L new ∧ Fr G L' h m ∧ News G L' h (new ++ [(L, { oL with slots := sl })]) ∧ Heap.NewExc h h' x "IndexError") ∨
  HeldP D s G L' L oL (rawInt L') e s'

theorem raised_noted {Q : Unit → Shared → Prop} (hfr : A₀.frames = some [env₀]) (hk₀ : env₀.scope.kind ≠ .module) (hf₀ : env₀.frame = some L) (hd₀ : ∃ es ep, oL.data = .dict es ep) (hk : scope.kind = .function)
    (H : RaisedP D s G L' L oL e s') (k : ∀ s₂, HeldP D s G L' L oL (rawInt L') e s₂ → Q () s₂) :
    wpAny (model PR w) (A₀.deeper (envOf name scope L' a cd)) (noteFrame e (envOf name scope L' a cd)) Q E s' := by
  rcases H with ⟨x, m, new, sl, h, h', tk, rfl, rfl, hD, hne, F, N, hx⟩ | ⟨x, m, new, sl, h', tk, rfl, rfl, hD, hne, H⟩
  · exact TLg.noted_new1 (s' := { s with heap := h', toks := tk }) (oL := { oL with slots := sl }) hfr ⟨hk₀, hf₀, hd₀, trivial⟩ hx F N hne (fun h₂ sl₂ _ H => k _ ⟨x, m, new, sl₂, h₂, tk, rfl, rfl, hD, hne, H⟩) hk
  · have H0 := H
    obtain ⟨⟨F, ⟨ob, vs, tb, otb, tvs, he, hcls, hd, h1, htb, htd, h3, htbL, htbe, htb0⟩, hf⟩, N, hap⟩ := H0
    exact wpAny_noteFrame_inFlight (s := { s with heap := h', toks := tk }) rfl he hd h1 htb htd h3 (k _ ⟨x, m, new, sl, h', tk, rfl, rfl, hD, hne, H⟩)

theorem reflight {M : Model} {fl : Value} {Q : Unit → Shared → Prop} (H : HeldP D s G L' L oL fl e s') (k : ∀ s₂, HeldP D s G L' L oL (rawInt L') e s₂ → Q () s₂) :
    wpAny M A (setFlight e (some L')) Q E s' := by
  obtain ⟨x, m, new, sl, h', tk, rfl, rfl, hD, hne, ⟨⟨F, ⟨ob, vs, tb, otb, tvs, he, hcls, hd, h1, htb, htd, h3, htbL, htbe, htb0⟩, hf⟩, N, hap⟩⟩ := H
  have hsz : 3 < tvs.size := (Array.getElem?_eq_some_iff.mp h3).1
  have happ := hap ob vs tb he hd h1
  obtain ⟨oL', esL, epL, hL, hLd, hLk, hLf⟩ := F.ns
  have he' := (Heap.get?_update_ne h' _ _ (Obj.mapFields (·.setIfInBounds 3 (rawInt L'))) htbe.symm).trans he
  have F' : Fr G L' (h'.update tb (Obj.mapFields (·.setIfInBounds 3 (rawInt L')))) m :=
    ⟨⟨oL', esL, epL, (Heap.get?_update_ne _ _ _ _ htbL.symm).trans hL, hLd, hLk, hLf⟩,
     fun b o hb => (Heap.get?_update_ne _ _ _ _ (fun q => by rw [q, htb0] at hb; cases hb)).trans (F.keep b o hb), F.above⟩
  unfold setFlight
  refine wpAny_bind (wpAny_field (s := { s with heap := h', toks := tk }) he hd h1 ?_)
  rw [if_pos (show (Value.ref tb != Value.none) = true from by simp)]
  refine wpAny_setField htb htd hsz (k _ ⟨x, m, new, sl, _, tk, rfl, rfl, hD, hne, ⟨⟨F', ⟨ob, vs, tb, _, _, he', hcls, hd, h1,
    Heap.get?_update_self _ htb (Obj.isFreed_of_fields (Obj.data_mapFields htd _)), Obj.data_mapFields htd _, by simp [hsz], htbL, htbe, htb0⟩, hf⟩,
    fun p hp => ⟨(Heap.get?_update_ne _ _ _ _ (happ p hp)).trans (N p hp).1, (N p hp).2⟩, ?_⟩⟩)
  intro ob' vs' tb' e1 e2 e3 p hp
  replace e1 : (h'.update tb (Obj.mapFields (·.setIfInBounds 3 (rawInt L')))).get? x = some ob' := e1
  rw [he'] at e1
  obtain rfl := Option.some.inj e1
  exact hap ob vs' tb' he e2 e3 p hp

theorem held_back {M : Model} {fl : Value} {α : Type} {Q : α → Shared → Prop} {what : String} {env : Env} (hf : env.frame = some L') (H : HeldP D s G L' L oL fl e s')
    (k : ∀ s₂, HeldP D s G L' L oL (rawInt L') e s₂ → E e s₂) :
    wpAny M A (PySem.passOn what e env : Sem α) Q E s' := by
  have H0 := H
  obtain ⟨x, m, new, sl, h', tk, rfl, rfl, hD, hne, ⟨⟨F, ⟨ob, vs, tb, otb, tvs, he, hcls, hd, h1, _⟩, hf'⟩, N, hap⟩⟩ := H0
  unfold PySem.passOn
  refine wpAny_bind (wpAny_field (s := { s with heap := h', toks := tk }) he hd h1 ?_)
  rw [if_neg (show ¬ (Value.ref tb == Value.none) = true from by simp)]
  rw [hf]
  refine wpAny_bind (reflight H fun s₂ H₂ => wpAny_throw (k s₂ H₂))

theorem raised_passes (hfr : A₀.frames = some [env₀]) (hk₀ : env₀.scope.kind ≠ .module) (hf₀ : env₀.frame = some L) (hd₀ : ∃ es ep, oL.data = .dict es ep) (hk : scope.kind = .function) :
    PassesOwn (model PR w) (A₀.deeper (envOf name scope L' a cd)) (envOf name scope L' a cd) (RaisedP D s G L' L oL) := by
  intro e s' H
  refine raised_noted hfr hk₀ hf₀ hd₀ hk H fun s₂ H₂ => ?_
  have H0 := H₂
  obtain ⟨x, m, new, sl, h', tk, rfl, rfl, hD, hne, ⟨⟨F, ⟨ob, vs, tb, otb, tvs, he, hcls, hd, h1, _⟩, hf'⟩, N, hap⟩⟩ := H0
  show wpAny _ _ _ _ _ _
  refine wpAny_bind (wpAny_field (s := { s with heap := h', toks := tk }) he hd h1 ?_)
  rw [if_neg (show ¬ (Value.ref tb == Value.none) = true from by simp)]
  exact reflight H₂ fun s₂ H₂ => Or.inr H₂

theorem held_lands {M : Model} {fl : Value} {Q : Unit → Shared → Prop} (H : HeldP D s G L' L oL fl e s') (k : ∀ s₂, HeldP D s G L' L oL .none e s₂ → Q () s₂) :
    wpAny M A (setFlight e none) Q E s' := by
  obtain ⟨x, m, new, sl, h', tk, rfl, rfl, hD, hne, H⟩ := H
  exact TT.HeldNA.land (s' := { s with heap := h', toks := tk }) H fun h₂ H₂ => k _ ⟨x, m, new, sl, h₂, tk, rfl, rfl, hD, hne, H₂⟩
end
end
section
open Builtin.Bytes (order)
theorem ord_self : ∀ x : List UInt8, order x x = .eq
  | [] => rfl
  | a :: x => by
    have h : ¬ a < a := fun h => by have := UInt8.lt_iff_toNat_lt.mp h; omega
    simp [order, h, ord_self x]
theorem ord_eq : ∀ {x y : List UInt8}, order x y = .eq → x = y
  | [], [], _ => rfl
  | [], _ :: _, h => by simp [order] at h
  | _ :: _, [], h => by simp [order] at h
  | a :: x, b :: y, h => by
    simp only [order] at h
    split at h
    · cases h
    · split at h
      · cases h
      · rename_i h1 h2
        have e : a = b := by
          apply UInt8.toNat_inj.mp
          have h3 : ¬ a.toNat < b.toNat := fun q => h1 (UInt8.lt_iff_toNat_lt.mpr q)
          have h4 : ¬ b.toNat < a.toNat := fun q => h2 (UInt8.lt_iff_toNat_lt.mpr q)
          omega
        rw [e, ord_eq h]
theorem ord_swap : ∀ x y : List UInt8, (order x y = .lt ↔ order y x = .gt)
  | [], [] => by simp [order]
  | [], _ :: _ => by simp [order]
  | _ :: _, [] => by simp [order]
  | a :: x, b :: y => by
    have ih := ord_swap x y
    have e1 : a < b ↔ a.toNat < b.toNat := UInt8.lt_iff_toNat_lt
    have e2 : b < a ↔ b.toNat < a.toNat := UInt8.lt_iff_toNat_lt
    simp only [order]
    by_cases h1 : a < b
    · have h2 : ¬ b < a := by rw [e2]; rw [e1] at h1; omega
      simp [h1, h2]
    · by_cases h2 : b < a
      · simp [h1, h2]
      · simp [h1, h2, ih]
theorem ord_trans : ∀ {x y z : List UInt8}, order x y = .lt → order y z = .lt → order x z = .lt
  | [], [], _, h, _ => by simp [order] at h
  | [], _ :: _, [], _, h => by simp [order] at h
  | [], _ :: _, _ :: _, _, _ => by simp [order]
  | _ :: _, [], _, h, _ => by simp [order] at h
  | _ :: _, _ :: _, [], _, h => by simp [order] at h
  | a :: x, b :: y, c :: z, h1, h2 => by
    have l : ∀ p q : UInt8, (p < q ↔ p.toNat < q.toNat) := fun p q => UInt8.lt_iff_toNat_lt
    have g : ∀ p q : UInt8, (p > q ↔ q.toNat < p.toNat) := fun p q => UInt8.lt_iff_toNat_lt
    simp only [order, l, g] at h1 h2 ⊢
    by_cases k1 : a.toNat < b.toNat
    · by_cases k2 : b.toNat < c.toNat
      · rw [if_pos (by omega)]
      · rw [if_neg k2] at h2
        by_cases k3 : c.toNat < b.toNat
        · rw [if_pos k3] at h2; cases h2
        · rw [if_pos (by omega)]
    · rw [if_neg k1] at h1
      by_cases k3 : b.toNat < a.toNat
      · rw [if_pos k3] at h1; cases h1
      · rw [if_neg k3] at h1
        by_cases k2 : b.toNat < c.toNat
        · rw [if_pos (by omega)]
        · rw [if_neg k2] at h2
          by_cases k4 : c.toNat < b.toNat
          · rw [if_pos k4] at h2; cases h2
          · rw [if_neg k4] at h2
            rw [if_neg (by omega), if_neg (by omega)]
            exact ord_trans h1 h2
abbrev Rising (l : List (List UInt8)) : Prop := l.Pairwise fun x y => order x y = .lt
theorem rising_ne {l : List (List UInt8)} (h : Rising l) {i : Nat} (hi : i + 1 < l.length) : (l.getD (i + 1) [] == l.getD i []) = false := by
  have e1 : l.getD (i + 1) [] = l[i + 1] := by simp [hi]
  have e0 : l.getD i [] = l[i] := by simp [show i < l.length by omega]
  rw [e1, e0]
  have := List.pairwise_iff_getElem.mp h i (i + 1) (by omega) hi (by omega)
  refine beq_eq_false_iff_ne.mpr fun q => ?_
  rw [q, ord_self] at this
  cases this
/-- what the merge tells of two rising lists -/
def sld : List (List UInt8) → List (List UInt8) → List (List UInt8) × List (List UInt8)
  | [], ys => ([], ys)
  | x :: xs, [] => (x :: xs, [])
  | x :: xs, y :: ys =>
    if order x y = .lt then ((x :: (sld xs (y :: ys)).1), (sld xs (y :: ys)).2)
    else if order x y = .gt then ((sld (x :: xs) ys).1, y :: (sld (x :: xs) ys).2)
    else sld xs ys
termination_by xs ys => xs.length + ys.length
theorem sld_nil (xs : List (List UInt8)) : sld xs [] = (xs, []) := by cases xs <;> simp [sld]
theorem nil_sld (ys : List (List UInt8)) : sld [] ys = ([], ys) := by simp [sld]
theorem drop_at {l : List (List UInt8)} {i : Nat} (h : i < l.length) : l.drop i = l.getD i [] :: l.drop (i + 1) := by
  rw [List.drop_eq_getElem_cons h]; simp [h]
section
variable {X Y : List (List UInt8)} {i j : Nat}
theorem sld_lt (hi : i < X.length) (hj : j < Y.length) (h : order (X.getD i []) (Y.getD j []) = .lt) :
    sld (X.drop i) (Y.drop j) = (X.getD i [] :: (sld (X.drop (i + 1)) (Y.drop j)).1, (sld (X.drop (i + 1)) (Y.drop j)).2) := by
  rw [drop_at hi, drop_at hj, sld, if_pos h]
theorem sld_gt (hi : i < X.length) (hj : j < Y.length) (h : order (X.getD i []) (Y.getD j []) = .gt) :
    sld (X.drop i) (Y.drop j) = ((sld (X.drop i) (Y.drop (j + 1))).1, Y.getD j [] :: (sld (X.drop i) (Y.drop (j + 1))).2) := by
  rw [drop_at hi, drop_at hj, sld, if_neg (by rw [h]; decide), if_pos h]
theorem sld_eq (hi : i < X.length) (hj : j < Y.length) (h1 : order (X.getD i []) (Y.getD j []) ≠ .lt) (h2 : order (X.getD i []) (Y.getD j []) ≠ .gt) :
    sld (X.drop i) (Y.drop j) = sld (X.drop (i + 1)) (Y.drop (j + 1)) := by
  rw [drop_at hi, drop_at hj, sld, if_neg h1, if_neg h2]
end
theorem sld_filter (X Y : List (List UInt8)) (hx : Rising X) (hy : Rising Y) : (sld X Y).1 = X.filter (fun z => decide (z ∉ Y)) ∧ (sld X Y).2 = Y.filter (fun z => decide (z ∉ X)) := by
  have h : ∀ (n : Nat) (X Y : List (List UInt8)), X.length + Y.length ≤ n → Rising X → Rising Y → (sld X Y).1 = X.filter (fun z => decide (z ∉ Y)) ∧ (sld X Y).2 = Y.filter (fun z => decide (z ∉ X)) := by
    intro n
    induction n with
    | zero =>
      intro X Y hl _ _
      have h1 := List.eq_nil_of_length_eq_zero (l := X) (by omega)
      have h2 := List.eq_nil_of_length_eq_zero (l := Y) (by omega)
      subst h1 h2
      simp [sld]
    | succ n ih =>
      intro X Y hl hx hy
      cases X with
      | nil => simp [sld]; exact (List.filter_eq_self.mpr fun _ _ => rfl).symm
      | cons x xs =>
        cases Y with
        | nil => simp [sld]; exact (List.filter_eq_self.mpr fun _ _ => rfl).symm
        | cons y ys =>
          simp only [List.length_cons] at hl
          obtain ⟨hx1, hx2⟩ := List.pairwise_cons.mp hx
          obtain ⟨hy1, hy2⟩ := List.pairwise_cons.mp hy
          rw [sld]
          by_cases h1 : order x y = .lt
          · rw [if_pos h1]
            obtain ⟨i1, i2⟩ := ih xs (y :: ys) (by simp only [List.length_cons]; omega) hx2 hy
            have hxn : x ∉ y :: ys := by
              intro hm
              rcases List.mem_cons.mp hm with e | hm
              · rw [e, ord_self] at h1; cases h1
              · have := ord_trans h1 (hy1 x hm); rw [ord_self] at this; cases this
            refine ⟨?_, ?_⟩
            · rw [List.filter_cons, if_pos (by simpa using hxn)]
              simp only
              rw [i1]
            · simp only
              rw [i2]
              refine List.filter_congr fun z hz => ?_
              have : z ≠ x := fun e => hxn (e ▸ hz)
              simp [this]
          · rw [if_neg h1]
            by_cases h2 : order x y = .gt
            · rw [if_pos h2]
              obtain ⟨i1, i2⟩ := ih (x :: xs) ys (by simp only [List.length_cons]; omega) hx hy2
              have h3 : order y x = .lt := (ord_swap y x).mpr h2
              have hyn : y ∉ x :: xs := by
                intro hm
                rcases List.mem_cons.mp hm with e | hm
                · rw [e, ord_self] at h3; cases h3
                · have := ord_trans h3 (hx1 y hm); rw [ord_self] at this; cases this
              refine ⟨?_, ?_⟩
              · simp only
                rw [i1]
                refine List.filter_congr fun z hz => ?_
                have : z ≠ y := fun e => hyn (e ▸ hz)
                simp [this]
              · rw [List.filter_cons, if_pos (by simpa using hyn)]
                simp only
                rw [i2]
            · rw [if_neg h2]
              have h3 : order x y = .eq := by cases e : order x y <;> simp_all
              have e := ord_eq h3
              subst e
              obtain ⟨i1, i2⟩ := ih xs ys (by omega) hx2 hy2
              have hxn : x ∉ xs := fun hm => by have := hx1 x hm; rw [ord_self] at this; cases this
              have hyn : x ∉ ys := fun hm => by have := hy1 x hm; rw [ord_self] at this; cases this
              refine ⟨?_, ?_⟩
              · rw [List.filter_cons, if_neg (by simp), i1]
                refine List.filter_congr fun z hz => ?_
                have : z ≠ x := fun e => hxn (e ▸ hz)
                simp [this]
              · rw [List.filter_cons, if_neg (by simp), i2]
                refine List.filter_congr fun z hz => ?_
                have : z ≠ x := fun e => hyn (e ▸ hz)
                simp [this]
  exact h _ X Y (Nat.le_refl _) hx hy
end
section
set_option maxRecDepth 100000
section
variable {w : World} {A : Around} {s : Shared} {E Q : Value → Shared → Prop} {env : Env}
theorem while_once {test : PySem.Expr} {body orelse : List Stmt} {pos : Pos} {Q : Flow → Shared → Prop} (hE : PassesOwn (model PR w) A env E)
    (h : wpAny (model PR w) A (isTrue test env (eval test env)) (fun b s₂ => b = false ∧ wpAny (model PR w) A (execs orelse env) Q E s₂) E s) :
    wpAny (model PR w) A (exec (.While test body orelse pos) env) Q E s := by
  refine whl_start 1 (whl_turn (k := 0) hE (wpAny_mono h (fun b s₂ h₂ => ?_) fun _ _ e => e))
  exact WhlIf.no h₂.1 h₂.2
theorem bs_at : ∀ {xs : List Value} {bx : List (List UInt8)}, BsAre xs bx → ∀ {k : Nat}, k < bx.length → ∃ t, xs[k]? = some (.bytes (bx.getD k []).toArray t)
  | _, _, .nil, k, h => by simp at h
  | _, _, .cons (a := _) (b := _) h _, 0, _ => by obtain ⟨t, rfl⟩ := h; exact ⟨t, by simp⟩
  | _, _, .cons h t, k + 1, hk => by simpa using bs_at t (k := k) (by simpa using hk)
theorem bs_len {xs : List Value} {bx : List (List UInt8)} (h : BsAre xs bx) : xs.length = bx.length := by
  induction h with
  | nil => rfl
  | cons _ _ ih => simp [ih]
theorem bs_drop : ∀ {xs : List Value} {bx : List (List UInt8)}, BsAre xs bx → ∀ k : Nat, BsAre (xs.drop k) (bx.drop k)
  | _, _, .nil, k => by simp only [List.drop_nil]; exact .nil
  | _, _, .cons h t, 0 => .cons h t
  | _, _, .cons h t, k + 1 => bs_drop t k
theorem bs_snoc {xs : List Value} {bx : List (List UInt8)} {x : List UInt8} {t : Tok} (h : BsAre xs bx) : BsAre (xs ++ [.bytes x.toArray t]) (bx ++ [x]) := paired_append h (.cons ⟨t, rfl⟩ .nil)
theorem item_Bs {value slice : PySem.Expr} {l : Addr} {xs : List Value} {bx : List (List UInt8)} {k : Int} {u : Tok} (n : Nat) (hl : s.heap.IsList l xs.toArray) (hx : BsAre xs bx) (hk : k = (n : Int)) (hn : n < bx.length) (hb : bx.length ≤ 1000)
    (h : ∀ t, Q (.bytes (bx.getD n []).toArray t) s)
    (hs : subscripted slice false (.ref l) (.int k u) = operate [.ref l, .int k u] (getItem (.ref l) (.int k u))) (hg : ∀ r, letTemporaryGo value (.ref l) r = pure ()) :
    wpAny (model PR w) A (subscriptTail value slice (.ref l) (.int k u)) Q E s := by
  obtain ⟨t, ht⟩ := bs_at hx hn
  subst hk
  exact item_listL hl (Int.natCast_nonneg _) (by omega) (by simpa using ht) (h t) hs hg
theorem item_BsOut {value slice : PySem.Expr} {l : Addr} {xs : List Value} {bx : List (List UInt8)} {k : Int} {u : Tok} (hA : A.handled = none) (hl : s.heap.IsList l xs.toArray) (hx : BsAre xs bx) (hk : k = (bx.length : Int)) (hb : bx.length ≤ 1000)
    (hE : ∀ h' tk e, Heap.NewExc s.heap h' e "IndexError" → E (.ref e) { s with heap := h', toks := tk })
    (hs : subscripted slice false (.ref l) (.int k u) = operate [.ref l, .int k u] (getItem (.ref l) (.int k u))) (hg : ∀ r, letTemporaryGo value (.ref l) r = pure ()) :
    wpAny (model PR w) A (subscriptTail value slice (.ref l) (.int k u)) Q E s := by
  have hlen := bs_len hx
  subst hk
  exact subscriptTail_builtin hl.typeIs slot_list_getitem.lookup (wpAny_getItem_list_out hA hl (.inr (by rw [List.size_toArray, hlen]; exact Int.le_refl _)) (by omega) (by omega) hE) hs hg
theorem isList_up {G h : Heap} {l : Addr} {its : Array Value} (hl : G.IsList l its) (k : ∀ b o, G.get? b = some o → h.get? b = some o) : h.IsList l its := by
  obtain ⟨o, e, r⟩ := hl
  exact ⟨o, k _ _ e, r⟩
theorem isList_gone {h : Heap} {L l : Addr} {oL : Obj} {its : Array Value} (hl : h.IsList l its) (hoL : h.get? L = some oL) (hd : ∃ es ep, oL.data = .dict es ep) : (TI.gone h [L]).IsList l its := by
  obtain ⟨o, e, r⟩ := hl
  refine ⟨o, (TI.gone_get (fun hm => ?_)).trans e, r⟩
  rw [List.mem_singleton.mp hm, hoL] at e
  injection e with e
  subst e
  obtain ⟨es, ep, hd⟩ := hd
  obtain ⟨_, n, hr⟩ := r
  rw [hd] at hr; cases hr
theorem item_BsF {G : Heap} {L' : Addr} {m : Str → Option Value} {value slice : PySem.Expr} {l : Addr} {xs : List Value} {bx : List (List UInt8)} {k : Int} {u : Tok} {n : Nat} (F : Fr G L' s.heap m) (hl : G.IsList l xs.toArray) (hx : BsAre xs bx) (hk : k = (n : Int)) (hn : n < bx.length) (hb : bx.length ≤ 100)
    (h : ∀ t, Q (.bytes (bx.getD n []).toArray t) s)
    (hs : subscripted slice false (.ref l) (.int k u) = operate [.ref l, .int k u] (getItem (.ref l) (.int k u))) (hg : ∀ r, letTemporaryGo value (.ref l) r = pure ()) :
    wpAny (model PR w) A (subscriptTail value slice (.ref l) (.int k u)) Q E s := item_Bs n (isList_up hl F.keep) hx hk hn (by omega) h hs hg
theorem item_BsOutF {G : Heap} {L' : Addr} {m : Str → Option Value} {value slice : PySem.Expr} {l : Addr} {xs : List Value} {bx : List (List UInt8)} {k : Int} {u : Tok} {n : Nat} (F : Fr G L' s.heap m) (hl : G.IsList l xs.toArray) (hx : BsAre xs bx) (hk : k = (n : Int)) (hn : n = bx.length) (hb : bx.length ≤ 100) (hA : A.handled = none)
    (hE : ∀ h' tk e, Heap.NewExc s.heap h' e "IndexError" → E (.ref e) { s with heap := h', toks := tk })
    (hs : subscripted slice false (.ref l) (.int k u) = operate [.ref l, .int k u] (getItem (.ref l) (.int k u))) (hg : ∀ r, letTemporaryGo value (.ref l) r = pure ()) :
    wpAny (model PR w) A (subscriptTail value slice (.ref l) (.int k u)) Q E s := item_BsOut hA (isList_up hl F.keep) hx (by rw [hk, hn]) (by omega) hE hs hg
theorem nat_succ (i : Nat) : ((i : Nat) : Int) + 1 = ((i + 1 : Nat) : Int) := rfl
theorem pick_from (l : List Value) (i : Nat) : slicePick l.toArray (some ((i : Nat) : Int)) none none = (l.drop i).toArray := by
  have e : sliceBounds (some ((i : Nat) : Int)) none none l.toArray.size = (((min i l.toArray.size : Nat) : Int), ((l.toArray.size : Nat) : Int), 1) := by
    simp only [sliceBounds, Option.getD_none, show (1 : Int) > 0 by decide, if_true, if_neg (show ¬ (((i : Nat) : Int) < 0) by omega)]
    congr 1
    omega
  rw [kmk_pick_nat _ e]
  show ((l.drop (min i l.toArray.size)).take (l.toArray.size - min i l.toArray.size)).toArray = _
  rw [List.size_toArray, kmk_drop_min, List.take_of_length_le (by rw [List.length_drop]; omega)]
theorem slice_BsF {G : Heap} {L' l : Addr} {m : Str → Option Value} {news : List (Addr × Obj)} {value slice : PySem.Expr} {vl vu : Value} {xs : List Value} {bx : List (List UInt8)} {n : Nat} {k : Int} (F : Fr G L' s.heap m) (N : News G L' s.heap news) (hl : G.IsList l xs.toArray) (hx : BsAre xs bx) (pl : IsPart vl (some k)) (pu : IsPart vu none) (hk : k = ((n : Nat) : Int))
    (hb : bx.length ≤ 100)
    (h : ∀ D h', Fr G L' h' m → News G L' h' ((D, W.listOf (List.toArray (xs.drop n)) 0) :: news) → (∀ p ∈ news, p.1 < D) → Q (.ref D) { s with heap := h' })
    (hs : subscripted slice false (.ref l) (.ref s.heap.objs.size) = operate [.ref s.heap.objs.size, .ref l] (getItem (.ref l) (.ref s.heap.objs.size))) (ht : ∀ r, letTemporaryGo value (.ref l) r = pure ()) :
    wpAny (model PR w) A (subscriptTail value slice (.ref l) (.ref s.heap.objs.size)) Q E { s with heap := s.heap.push { cls := .type "slice", data := .fields #[vl, vu, .none] } } := by
  subst hk
  refine kmk_slice F N (isList_up hl F.keep) pl pu (fun D h' F' N' l1 => h D h' F' ?_ l1) hs ht (by rw [List.size_toArray, bs_len hx, sizeLine_eq]; omega)
  rw [← pick_from]
  exact N'
theorem extend_any {h₀ : Heap} {L D b : Addr} {m : Str → Option Value} {news : List (Addr × Obj)} {its its2 : List Value} {n n2 : Nat} (f : Nat → List (Addr × Obj)) (F : Fr h₀ L s.heap m) (N : News h₀ L s.heap news) (hb : (b, W.listOf its2.toArray n2) ∈ news)
    (U : ∀ c, Upd D (W.listOf its.toArray n) (W.listOf (its ++ its2).toArray c) news (f c)) (hz : its.length + its2.length ≤ 1000)
    (h : ∀ h' c, Fr h₀ L h' m → News h₀ L h' (f c) → Q .none { s with heap := h' }) : wpAny (model PR w) A (call (.builtin "list.extend") [.ref D, .ref b]) Q E s := by
  have hzz : its.toArray.size + its2.toArray.size ≤ sizeLine := by rw [List.size_toArray, List.size_toArray, sizeLine_eq]; omega
  have hz1 : its.toArray.toList.length ≤ sizeLine := by rw [List.size_toArray] at hzz; simp; omega
  by_cases h0 : its2 = []
  · subst h0
    have U0 := U n
    rw [List.append_nil] at U0
    exact kxn_extend F N hb rfl U0 (extend_door hzz) hz1 (by omega) fun h' F' N' => h h' n F' N'
  · refine kl_extend F N hb rfl (by simpa using h0) (U (n + 1)) (extend_door hzz) hz1 (by omega) fun h' F' N' => h h' (n + 1) F' N'
theorem loadX_L {M : Model} {h₀ : Heap} {L a : Addr} {m : Str → Option Value} {cn : Str} {cs : Scope} {ccd : Value} {cl : List (Str × Addr)} {x : Str} {v : Value} (F : Fr h₀ L s.heap m) (hv : m x = some v) (h : Q v s)
    (hk : cs.kind = .function) (hx : (envX cn cs L a ccd cl).kindOf x = some .local) : wpAny M A (loadName (envX cn cs L a ccd cl) x) Q E s := wpAny_loadName_local hk hx F.ns hv h
theorem last_at {l : List (List UInt8)} {i : Nat} (h : i + 1 = l.length) : l.getLast? = some (l.getD i []) := by
  rw [List.getLast?_eq_getElem?]
  have e : l.length - 1 = i := by omega
  rw [e]
  simp [show i < l.length by omega]
end
end
theorem top_off_F11 : True := by (w_top off; trivial)
section
set_option maxRecDepth 100000
def SState (a b lm lu : Addr) (m : Str → Option Value) (new : List (Addr × Obj)) (i j : Nat) (ms us : List (List UInt8)) : Prop :=
  ∃ vm vu nm nu, new = [(lu, W.listOf (List.toArray vu) nu), (lm, W.listOf (List.toArray vm) nm)] ∧ IntAt m "i" ((i : Nat) : Int) ∧ IntAt m "j" ((j : Nat) : Int) ∧ m "expected" = some (.ref a) ∧ m "actual" = some (.ref b) ∧
    m "missing" = some (.ref lm) ∧ m "unexpected" = some (.ref lu) ∧ BsAre vm ms ∧ BsAre vu us
/-- out of the loop: one of the two lists has run out -/
def DD (a b lm lu : Addr) (bx bY : List (List UInt8)) (m : Str → Option Value) (new : List (Addr × Obj)) : Prop :=
  ∃ i j ms us, SState a b lm lu m new i j ms us ∧ i ≤ bx.length ∧ j ≤ bY.length ∧ sld bx bY = (ms ++ bx.drop i, us ++ bY.drop j) ∧ ms.length ≤ i ∧ us.length ≤ j
/-- the first list has run out at equal heads; the finally block is still to come -/
def DF (a b lm lu : Addr) (bx bY : List (List UInt8)) (m : Str → Option Value) (new : List (Addr × Obj)) : Prop :=
  ∃ j ms us t, SState a b lm lu m new bx.length j ms us ∧ j + 1 < bY.length ∧ sld bx bY = (ms, us ++ bY.drop (j + 1)) ∧ ms.length ≤ bx.length ∧ us.length ≤ j ∧ m "a" = some (.bytes (bY.getD j []).toArray t)
/-- the loop's head -/
def CC (s : Shared) (G : Heap) (L' L : Addr) (oL : Obj) (a b lm lu : Addr) (bx bY : List (List UInt8)) (k : Nat) (s' : Shared) : Prop :=
  ∃ i j ms us h mm new tk, s' = { s with heap := h, toks := tk } ∧ Fr G L' h mm ∧ News G L' h (new ++ [(L, oL)]) ∧ SState a b lm lu mm new i j ms us ∧ i < bx.length ∧ j < bY.length ∧
    sld bx bY = (ms ++ (sld (bx.drop i) (bY.drop j)).1, us ++ (sld (bx.drop i) (bY.drop j)).2) ∧ ms.length ≤ i ∧ us.length ≤ j ∧ k = (bx.length - i) + (bY.length - j)
local macro_rules | `(tactic| walk_at "mine haltz") => `(tactic| (fail_if_success (with_reducible show wpAny _ _ (subscriptTail _ _ (Value.ref _) (Value.ref _)) _ _ _)))
local macro_rules | `(tactic| walk_at "mine stepsz") => `(tactic| repeat' (first | (k_unfold; (try dsimp only)) | (walk_at "mine haltz"; walk_at "mine halt"; walk1) | (walk_at "mine haltz"; walk_at "mine halt"; dsimp only; walk1) | (leave1; try dsimp only) | (walk_at "mine nowp"; dsimp only [InvPostG, WhlPost])))
local macro_rules | `(tactic| walk_at "mine extend") => `(tactic| ((with_reducible show wpAny _ _ (call (Value.builtin _) [Value.ref _, Value.ref _]) _ _ _); (refine' extend_any ?f ?F ?N ?b ?U ?z ?_; rotate_left; (case F => k_asm); (case N => k_asm); (case b => k_mem); (case U => (intro c; k_upd)); (case z => assumption); (try dsimp only)); intro h' c' F' N'; (try dsimp only at N')))
local macro_rules | `(tactic| walk_at "loadName") => `(tactic| (refine' loadX_L ?F ?v ?_ ?a ?b; (case F => k_asm); (case a => rfl); (case b => rfl); (case v => walk_at "mine look")))
local macro_rules | `(tactic| walk_at "subscriptTail") => `(tactic| ((with_reducible show wpAny _ _ (subscriptTail _ _ (Value.ref _) (Value.int _ _)) _ _ _); (refine' item_BsF ?F ?l ?x ?k ?n ?b ?_ ?hs ?ht; (case F => k_asm); (case l => assumption); (case x => assumption); (case k => first | exact rfl | exact nat_succ _); (case n => first | assumption | omega); (case b => assumption); (case hs => with_unfolding_all rfl); (case ht => (intro _; with_unfolding_all rfl))); intro t'))
local macro_rules | `(tactic| walk_at "subscriptTail") => `(tactic| ((with_reducible show wpAny _ _ (subscriptTail _ _ (Value.ref _) (Value.int _ _)) _ _ _); (refine' item_BsOutF ?F ?l ?x ?k ?n ?b ?A ?_ ?hs ?ht; (case F => k_asm); (case l => assumption); (case x => assumption); (case k => first | exact rfl | exact nat_succ _); (case n => first | assumption | omega); (case b => assumption); (case A => exact rfl); (case hs => with_unfolding_all rfl); (case ht => (intro _; with_unfolding_all rfl)))))
local macro_rules | `(tactic| walk_at "mine slice") => `(tactic| ((with_reducible show wpAny _ _ (subscriptTail _ _ (Value.ref _) (Value.ref _)) _ _ _); (refine' slice_BsF (s := ⟨_, _, _, _, _⟩) ?F ?N ?l ?x ?pl ?pu ?k ?b ?_ ?hs ?ht; (case F => k_asm); (case N => k_asm); (case l => assumption); (case x => assumption); (case pl => constructor); (case pu => constructor); (case k => exact rfl); (case b => assumption); (case hs => with_unfolding_all rfl); (case ht => (intro _; with_unfolding_all rfl))); intro D' h' F' N' l1'; (k_lt l1')))
section
variable {w : World} {p : Program} {loose : List Str} {mean : ExcName → Option Value} {mg mb : Str → Option Value} {dp un : Nat} {gd : Option (List Code)} {E Q : Value → Shared → Prop} {s : Shared}

theorem gone_fr {h h₁ : Heap} {L L' : Addr} {m : Str → Option Value} (F : Fr h L' h₁ m) : Fr (TI.gone h [L]) L' h₁ m :=
  ⟨F.ns, fun b o e => F.keep b o (TI.gone_some e).2, by have := F.above; simpa [TI.gone, Heap.update] using this⟩
theorem gone_news {h h₁ : Heap} {L L' : Addr} {oL : Obj} {m : Str → Option Value} (F : Fr h L' h₁ m) (hL : h.get? L = some oL) : News (TI.gone h [L]) L' h₁ [(L, oL)] := by
  intro q hq
  rw [List.mem_singleton.mp hq]
  exact ⟨F.keep _ _ hL, Nat.ne_of_lt (Nat.lt_of_lt_of_le (Heap.lt_size hL) F.above), TI.gone_none (List.Mem.head _)⟩

set_option maxHeartbeats 4000000 in
theorem sld_call {h₀ : Heap} {env₀ : Env} {L a b : Addr} {oL : Obj} {xs ys : List Value} {bx bY : List (List UInt8)}
    (X : (Mine.hd.heap_39 w.params).In h₀) (T : Top p loose mean mg mb h₀) (hk : ∀ b o, h₀.get? b = some o → s.heap.get? b = some o) (hL₀ : h₀.get? L = none) (hoL : s.heap.get? L = some oL)
    (hd₀ : ∃ es ep, oL.data = .dict es ep) (hk₀ : env₀.scope.kind ≠ .module) (hf₀ : env₀.frame = some L)
    (hdp : dp + 3 < recursionLimit) (hu : un + 80 < cLine) (ha : s.heap.IsList a xs.toArray) (hb : s.heap.IsList b ys.toArray) (hx : BsAre xs bx) (hy : BsAre ys bY)
    (hrx : Rising bx) (hry : Rising bY) (hnx : 0 < bx.length) (hny : 0 < bY.length) (hlx : bx.length ≤ 100) (hly : bY.length ≤ 100) (hlast : bx.getLast? ≠ bY.getLast?)
    (hQ : ∀ t lm lu vm vu h' tk, (∀ b o, b ≠ L → s.heap.get? b = some o → h'.get? b = some o) → (∃ sl, h'.get? L = some { oL with slots := sl }) → IsTup h' t #[.ref lm, .ref lu] → h'.IsList lm (List.toArray vm) → h'.IsList lu (List.toArray vu) → BsAre vm (sld bx bY).1 → BsAre vu (sld bx bY).2 → Q (.ref t) { s with heap := h', toks := tk }) :
    wpAny (model PR w) (MA dp un (some [env₀]) gd) (call (.ref 116) [.ref a, .ref b]) Q E s := by
  have hG : ∀ b o, h₀.get? b = some o → (TI.gone s.heap [L]).get? b = some o := fun b o e => (TI.gone_get (by intro hm; rw [List.mem_singleton.mp hm, hL₀] at e; cases e)).trans (hk b o e)
  have XG : (Mine.hd.heap_39 w.params).In (TI.gone s.heap [L]) := X.keeps hG
  have TG : Top p loose mean mg mb (TI.gone s.heap [L]) := Top.keeps T hG
  have Xs := X.keeps hk
  have Ts := Top.keeps T hk
  clear X T
  have haG := isList_gone ha hoL hd₀
  have hbG := isList_gone hb hoL hd₀
  walk_at "mine fill"
  k_dflt (refine' call_my (binds := [("expected", .ref a), ("actual", .ref b)]) ?k3 ?k5 ?k6 ?k7 ?k8 ?k9 ?kB ?_ ?c2 ?c3 ?c4 ?c5; walk_at "mine sides"; intro L' h' tk' F' N'; (try dsimp only))
  have N2 := gone_news F' hoL
  have F2 := gone_fr (L := L) F'
  clear F' N' Xs Ts
  walk_at "mine steps"
  rename Fr _ _ _ _ => FF
  rename News _ _ _ _ => NN
  rename_i lm _ l1 _ _ lu _ l2 _
  generalize hGG : TI.gone s.heap [L] = G at *
  refine while_ind (C := CC s G L' L oL a b lm lu bx bY) ((bx.length - 0) + (bY.length - 0)) ?_ ?_ PassesOwn.never
  · refine ⟨0, 0, [], [], _, _, [(lu, W.listOf #[] 0), (lm, W.listOf #[] 0)], _, rfl, FF, NN, ⟨[], [], 0, 0, rfl, ?_, ?_, ?_, ?_, ?_, ?_, .nil, .nil⟩, hnx, hny, by simp, by simp, by simp, rfl⟩
    · walk_at "mine at"; rfl
    · walk_at "mine at"; rfl
    all_goals walk_at "mine look"
  · clear FF NN
    rintro k s' ⟨i, j, ms, us, h, mm, new, tk5, rfl, F2, N2, HS, hi, hj, hsld, hms, hus, rfl⟩
    obtain ⟨vm, vu, nm, nu, rfl, ⟨t1, hii⟩, ⟨t2, hjj⟩, hex, hac, hmi, hun, hvm, hvu⟩ := HS
    dsimp only [List.cons_append, List.nil_append] at N2
    walk_at "mine steps"
    refine WhlIf.yes (by rfl) ?_
    walk_at "mine steps"
    refine wpAny_Try_except (wpAny_mono (Q := fun f s₁ => f = .next ∧ ∃ k', k' < (bx.length - i) + (bY.length - j) ∧ CC s G L' L oL a b lm lu bx bY k' s₁) (E := RaisedP (DD a b lm lu bx bY) s G L' L oL) ?_ ?_ ?_)
    · have hla : h.IsList a xs.toArray := isList_up haG F2.keep
      have hlb : h.IsList b ys.toArray := isList_up hbG F2.keep
      have hvm' : vm.toArray.size ≤ sizeLine := by rw [List.size_toArray, bs_len hvm, sizeLine_eq]; omega
      have hvu' : vu.toArray.size ≤ sizeLine := by rw [List.size_toArray, bs_len hvu, sizeLine_eq]; omega
      have hne : ∀ {o₁ o₂ : Obj}, TLg.AllNe L [(lu, o₁), (lm, o₂)] := fun {_ _} => ⟨Nat.ne_of_gt l2.2, Nat.ne_of_gt l1, trivial⟩
      walk_at "mine steps"
      · rename (_ == Ordering.lt) = true => hlt
        rename Fr _ _ _ _ => F3
        rename News _ _ _ _ => N3
        rw [List.push_toArray] at N3
        have hlt2 : Builtin.Bytes.order (bx.getD i []) (bY.getD j []) = .lt := by simpa using hlt
        rw [sld_lt hi hj hlt2] at hsld
        refine while_once (raised_passes rfl hk₀ hf₀ hd₀ rfl) ?_
        by_cases hi1 : i + 1 < bx.length
        · walk_at "mine steps"
          refine ⟨rising_ne hrx hi1, ?_⟩
          walk_at "mine steps"
          refine ⟨rfl, _, ?_, i + 1, j, ms ++ [bx.getD i []], us, _, _, _, _, rfl, F3, N3, ⟨_, _, _, _, rfl, ?_, ?_, ?_, ?_, ?_, ?_, bs_snoc hvm, hvu⟩, hi1, hj, ?_, ?_, hus, rfl⟩
          · omega
          · walk_at "mine at"; rfl
          · walk_at "mine at"; rfl
          · walk_at "mine look"
          · walk_at "mine look"
          · walk_at "mine look"
          · walk_at "mine look"
          · rw [hsld]; simp
          · simp; omega
        · have hi2 : i + 1 = bx.length := by omega
          walk_at "mine steps"
          intro h2 tk2 e2 hx2
          refine .inl ⟨e2, _, _, oL.slots, _, h2, tk2, rfl, rfl, ⟨i + 1, j, ms ++ [bx.getD i []], us, ⟨_, _, _, _, rfl, ?_, ?_, ?_, ?_, ?_, ?_, bs_snoc hvm, hvu⟩, by omega, by omega, ?_, ?_, hus⟩, hne, F3, N3, hx2⟩
          · walk_at "mine at"; rfl
          · walk_at "mine at"; rfl
          · walk_at "mine look"
          · walk_at "mine look"
          · walk_at "mine look"
          · walk_at "mine look"
          · rw [hsld, List.drop_eq_nil_of_le (Nat.le_of_eq hi2.symm), nil_sld] <;> simp
          · simp; omega
      · rename (_ == Ordering.gt) = true => hgt
        rename Fr _ _ _ _ => F3
        rename News _ _ _ _ => N3
        rw [List.push_toArray] at N3
        have hgt2 : Builtin.Bytes.order (bx.getD i []) (bY.getD j []) = .gt := by simpa using hgt
        rw [sld_gt hi hj hgt2] at hsld
        refine while_once (raised_passes rfl hk₀ hf₀ hd₀ rfl) ?_
        by_cases hj1 : j + 1 < bY.length
        · walk_at "mine steps"
          refine ⟨rising_ne hry hj1, ?_⟩
          walk_at "mine steps"
          refine ⟨rfl, _, ?_, i, j + 1, ms, us ++ [bY.getD j []], _, _, _, _, rfl, F3, N3, ⟨_, _, _, _, rfl, ?_, ?_, ?_, ?_, ?_, ?_, hvm, bs_snoc hvu⟩, hi, hj1, ?_, hms, ?_, rfl⟩
          · omega
          · walk_at "mine at"; rfl
          · walk_at "mine at"; rfl
          · walk_at "mine look"
          · walk_at "mine look"
          · walk_at "mine look"
          · walk_at "mine look"
          · rw [hsld]; simp
          · simp; omega
        · have hj2 : j + 1 = bY.length := by omega
          walk_at "mine steps"
          intro h2 tk2 e2 hx2
          refine .inl ⟨e2, _, _, oL.slots, _, h2, tk2, rfl, rfl, ⟨i, j + 1, ms, us ++ [bY.getD j []], ⟨_, _, _, _, rfl, ?_, ?_, ?_, ?_, ?_, ?_, hvm, bs_snoc hvu⟩, by omega, by omega, ?_, hms, ?_⟩, hne, F3, N3, hx2⟩
          · walk_at "mine at"; rfl
          · walk_at "mine at"; rfl
          · walk_at "mine look"
          · walk_at "mine look"
          · walk_at "mine look"
          · walk_at "mine look"
          · rw [hsld, List.drop_eq_nil_of_le (Nat.le_of_eq hj2.symm), sld_nil] <;> simp
          · simp; omega
      · rename (_ == Ordering.gt) = false => hgt
        rename (_ == Ordering.lt) = false => hlt
        rename Fr _ _ _ _ => F3
        rename News _ _ _ _ => N3
        have hgt2 : Builtin.Bytes.order (bx.getD i []) (bY.getD j []) ≠ .gt := by simpa using hgt
        have hlt2 : Builtin.Bytes.order (bx.getD i []) (bY.getD j []) ≠ .lt := by simpa using hlt
        have heq : bx.getD i [] = bY.getD j [] := ord_eq (by cases e : Builtin.Bytes.order (bx.getD i []) (bY.getD j []) <;> simp_all)
        rw [sld_eq hi hj hlt2 hgt2] at hsld
        refine wpAny_mono (E := RaisedP (DF a b lm lu bx bY) s G L' L oL) ?_ (fun _ _ x => x) (fun e s₁ H => ?_)
        · refine while_once (raised_passes rfl hk₀ hf₀ hd₀ rfl) ?_
          by_cases hi1 : i + 1 < bx.length
          · walk_at "mine steps"
            refine ⟨rising_ne hrx hi1, ?_⟩
            walk_at "mine steps"
            rename Fr _ _ _ _ => F4
            rename News _ _ _ _ => N4
            refine wpAny_mono (E := RaisedP (DD a b lm lu bx bY) s G L' L oL) ?_ (fun _ _ x => x) (fun e s₁ H => raised_passes rfl hk₀ hf₀ hd₀ rfl e s₁ H)
            refine while_once (raised_passes rfl hk₀ hf₀ hd₀ rfl) ?_
            by_cases hj1 : j + 1 < bY.length
            · walk_at "mine steps"
              refine ⟨rising_ne hry hj1, ?_⟩
              walk_at "mine steps"
              refine ⟨rfl, _, ?_, i + 1, j + 1, ms, us, _, _, _, _, rfl, F4, N4, ⟨_, _, _, _, rfl, ?_, ?_, ?_, ?_, ?_, ?_, hvm, hvu⟩, hi1, hj1, hsld, by omega, by omega, rfl⟩
              · omega
              · walk_at "mine at"; rfl
              · walk_at "mine at"; rfl
              · walk_at "mine look"
              · walk_at "mine look"
              · walk_at "mine look"
              · walk_at "mine look"
            · have hj2 : j + 1 = bY.length := by omega
              walk_at "mine steps"
              intro h2 tk2 e2 hx2
              refine .inl ⟨e2, _, _, oL.slots, _, h2, tk2, rfl, rfl, ⟨i + 1, j + 1, ms, us, ⟨_, _, _, _, rfl, ?_, ?_, ?_, ?_, ?_, ?_, hvm, hvu⟩, by omega, by omega, ?_, by omega, by omega⟩, hne, F4, N4, hx2⟩
              · walk_at "mine at"; rfl
              · walk_at "mine at"; rfl
              · walk_at "mine look"
              · walk_at "mine look"
              · walk_at "mine look"
              · walk_at "mine look"
              · rw [hsld, List.drop_eq_nil_of_le (Nat.le_of_eq hj2.symm), sld_nil] <;> simp
          · have hi2 : i + 1 = bx.length := by omega
            have hj1 : j + 1 < bY.length := by
              rcases Nat.lt_or_ge (j + 1) bY.length with h9 | h9
              · exact h9
              · exact absurd ((last_at hi2).trans ((congrArg some heq).trans (last_at (show j + 1 = bY.length by omega)).symm)) hlast
            walk_at "mine steps"
            intro h2 tk2 e2 hx2
            refine .inl ⟨e2, _, _, oL.slots, _, h2, tk2, rfl, rfl, ⟨j, ms, us, ?_, ⟨_, _, _, _, rfl, ?_, ?_, ?_, ?_, ?_, ?_, hvm, hvu⟩, hj1, ?_, by omega, hus, ?_⟩, hne, F3, N3, hx2⟩
            rotate_left
            · walk_at "mine at"; rw [← hi2]; rfl
            · walk_at "mine at"; rfl
            · walk_at "mine look"
            · walk_at "mine look"
            · walk_at "mine look"
            · walk_at "mine look"
            · rw [hsld, List.drop_eq_nil_of_le (Nat.le_of_eq hi2.symm), nil_sld] <;> simp
            · walk_at "mine look"
        · refine raised_noted rfl hk₀ hf₀ hd₀ rfl H fun s₂ H₂ => ?_
          have href : ∃ x, e = .ref x := by obtain ⟨x, _, _, _, _, _, rfl, _⟩ := H₂; exact ⟨x, rfl⟩
          refine ⟨by obtain ⟨x, rfl⟩ := href; exact ref_ne_byPass x, ?_⟩
          refine raised_noted rfl hk₀ hf₀ hd₀ rfl (.inr H₂) fun s₃ H₃ => held_lands H₃ fun s₄ H₄ => ?_
          clear H H₂ H₃ href F3 N3 hlt hgt hvm hvu hii hjj hsld hms hus
          obtain ⟨x, m5, new, sl, h5, tk6, rfl, rfl, ⟨j, ms, us, t6, HS, hj, hsld, hms, hus, haa⟩, hne5, HN⟩ := H₄
          obtain ⟨vm, vu, nm, nu, rfl, ⟨t1, hii⟩, ⟨t2, hjj⟩, hex, hac, hmi, hun, hvm, hvu⟩ := HS
          obtain ⟨⟨F5, ⟨ob, vs, tb, otb, tvs, he5, hcls, hdd, h1, htb, htd, h3, htbL, htbe, htb0⟩, hfr5⟩, N5, hap⟩ := HN
          have hx5 : x ≠ L' := by
            rintro rfl
            obtain ⟨o7, es7, ep7, ho7, hd7, _⟩ := F5.ns
            have ho8 : h5.get? x = some o7 := ho7
            rw [he5] at ho8; injection ho8 with ho8; subst ho8
            rw [hdd] at hd7; cases hd7
          have N7 : News G L' h5 [(lu, W.listOf (List.toArray vu) nu), (lm, W.listOf (List.toArray vm) nm), (L, { oL with slots := sl }), (x, ob), (tb, otb)] := by
            intro q hq
            simp only [List.mem_cons, List.not_mem_nil, or_false] at hq
            rcases hq with rfl | rfl | rfl | rfl | rfl
            · exact N5 _ (List.mem_of_getElem? (i := 0) rfl)
            · exact N5 _ (List.mem_of_getElem? (i := 1) rfl)
            · exact N5 _ (List.mem_of_getElem? (i := 2) rfl)
            · exact ⟨he5, hx5, hfr5⟩
            · exact ⟨htb, htbL, htb0⟩
          have hap2 := hap ob vs tb he5 hdd h1
          have ap0 := hap2 _ (List.mem_of_getElem? (i := 0) rfl)
          have ap1 := hap2 _ (List.mem_of_getElem? (i := 1) rfl)
          have ap2 := hap2 _ (List.mem_of_getElem? (i := 2) rfl)
          clear hap hap2 N5 he5 htb
          refine wpAny_noRaise ?_
          walk_at "mine steps"
          refine while_once PassesOwn.never ?_
          walk_at "mine steps"
          refine ⟨rising_ne hry hj, ?_⟩
          walk_at "mine steps"
          rename Fr _ _ _ _ => F8
          rename News _ _ _ _ => N8
          refine held_back (D := DD a b lm lu bx bY) (s := s) (G := G) (L := L) (L' := L') (oL := oL) (fl := .none) rfl ⟨x, _, [(lu, W.listOf (List.toArray vu) nu), (lm, W.listOf (List.toArray vm) nm)], sl, _, _, rfl, rfl, ⟨bx.length, j + 1, ms, us, ⟨_, _, _, _, rfl, ?_, ?_, ?_, ?_, ?_, ?_, hvm, hvu⟩, Nat.le_refl _, by omega, ?_, hms, by omega⟩, hne, ⟨⟨F8, ⟨ob, vs, tb, otb, tvs, (N8 _ (List.mem_of_getElem? (i := 3) rfl)).1, hcls, hdd, h1, (N8 _ (List.mem_of_getElem? (i := 4) rfl)).1, htd, h3, htbL, htbe, htb0⟩, hfr5⟩, ?_, ?_⟩⟩ (fun s₂ H => .inr H)
          · walk_at "mine at"; rfl
          · walk_at "mine at"; rfl
          · walk_at "mine look"
          · walk_at "mine look"
          · walk_at "mine look"
          · walk_at "mine look"
          · rw [hsld]; simp
          · intro q hq
            simp only [List.cons_append, List.nil_append, List.mem_cons, List.not_mem_nil, or_false] at hq
            rcases hq with rfl | rfl | rfl
            · exact N8 _ (List.mem_of_getElem? (i := 0) rfl)
            · exact N8 _ (List.mem_of_getElem? (i := 1) rfl)
            · exact N8 _ (List.mem_of_getElem? (i := 2) rfl)
          · intro ob' vs' tb' e1 e2 e3 q hq
            have e4 := (N8 _ (List.mem_of_getElem? (i := 3) rfl)).1
            rw [e4] at e1
            injection e1 with e1
            subst e1
            rw [hdd] at e2
            injection e2 with e2
            subst e2
            rw [h1] at e3
            injection e3 with e3
            injection e3 with e3
            subst e3
            simp only [List.cons_append, List.nil_append, List.mem_cons, List.not_mem_nil, or_false] at hq
            rcases hq with rfl | rfl | rfl
            · exact ap0
            · exact ap1
            · exact ap2
    · rintro f s₁ ⟨rfl, k', hk', hC⟩
      dsimp only
      refine wpAny_execs_nil (wpAny_execs_nil ?_)
      exact ⟨k', hk', hC⟩
    · intro e s₁ H
      refine raised_noted rfl hk₀ hf₀ hd₀ rfl H fun s₂ H₂ => held_lands H₂ fun s₃ H₃ => ?_
      clear H H₂
      obtain ⟨x, mm, new, sl, h', tk, rfl, rfl, ⟨i, j, ms, us, HS, hi, hj, hsld, hms, hus⟩, hne, HN⟩ := H₃
      refine wpAny_handleBy_builtin (X := "IndexError") (T := "IndexError") (b := true) (isSubtype_of_subB (by decide +kernel)) (isSubtype_of_subB (by decide +kernel)) (isSubtype_of_subB (by decide +kernel)) ?_
      have F9 := HN.held.fr
      walk_at "mine steps"
      refine ⟨rfl, HN.isA, ?_⟩
      rw [if_pos rfl]
      refine HN.lands fun h₂ F3 N3 => ?_
      clear F9 HN
      obtain ⟨vm, vu, nm, nu, rfl, ⟨t1, hii⟩, ⟨t2, hjj⟩, hex, hac, hmi, hun, hvm, hvu⟩ := HS
      dsimp only [List.cons_append, List.nil_append] at N3
      have hla : h₂.IsList a xs.toArray := isList_up haG F3.keep
      have hlb : h₂.IsList b ys.toArray := isList_up hbG F3.keep
      have e1 := bs_len hvm
      have e2 := bs_len hvu
      have e3 := bs_len hx
      have e4 := bs_len hy
      have hz1 : vm.length + (List.drop i xs).length ≤ 1000 := by rw [List.length_drop, e1, e3]; omega
      have hz2 : vu.length + (List.drop j ys).length ≤ 1000 := by rw [List.length_drop, e2, e4]; omega
      walk_at "mine stepsz"
      walk_at "mine slice"
      walk_at "mine stepsz"
      walk_at "mine extend"
      walk_at "mine stepsz"
      walk_at "mine slice"
      walk_at "mine stepsz"
      walk_at "mine extend"
      walk_at "mine stepsz"
      rename Fr _ _ _ _ => F5
      rename News _ _ _ _ => N5
      dsimp only [WEnd]
      walk_at "mine steps"
      rename Fr _ _ _ _ => F6
      rename News _ _ _ _ => N6
      refine hQ _ lm lu (vm ++ xs.drop i) (vu ++ ys.drop j) _ _ (fun b o hbL e => F6.keep b o (hGG ▸ (TI.gone_get (fun hm => hbL (List.mem_singleton.mp hm))).trans e)) ⟨sl, (N6 (_, _) (List.mem_of_getElem? (i := 5) rfl)).1⟩ ⟨_, (N6 (_, _) (List.mem_of_getElem? (i := 0) rfl)).1, rfl, _, rfl⟩
        ⟨_, (N6 (_, _) (List.mem_of_getElem? (i := 4) rfl)).1, rfl, _, rfl⟩ ⟨_, (N6 (_, _) (List.mem_of_getElem? (i := 3) rfl)).1, rfl, _, rfl⟩ ?_ ?_
      · rw [hsld]; exact paired_append hvm (bs_drop hx i)
      · rw [hsld]; exact paired_append hvu (bs_drop hy j)
end
end
section
set_option maxRecDepth 100000
section
variable {w : World} {A : Around} {s : Shared} {E Q : Value → Shared → Prop}
theorem eqGives_bs (a b : List UInt8) (t u : Tok) : MeetsSeq.EqGives (.bytes a.toArray t) (.bytes b.toArray u) (decide (a = b)) := fun _ _ _ _ _ _ h => eqBool_bytes h
def isBs (k : List UInt8) : Value → Bool
  | .bytes b _ => decide (b.toList = k)
  | _ => false
theorem any_isBs (k : List UInt8) : ∀ {vs : List Value} {bs : List (List UInt8)}, BsAre vs bs → vs.any (isBs k) = decide (k ∈ bs)
  | _, _, .nil => by simp
  | _, _, .cons (a := _) (b := b) h r => by
    obtain ⟨t, rfl⟩ := h
    rw [List.any_cons, any_isBs k r]
    show (decide (b = k) || _) = _
    by_cases e : b = k
    · simp [e]
    · have e' : ¬ k = b := fun q => e q.symm
      simp [e, e']
theorem eq_isBs (k : List UInt8) (t : Tok) : ∀ {vs : List Value} {bs : List (List UInt8)}, BsAre vs bs → ∀ y, y ∈ vs → MeetsSeq.EqGives y (.bytes k.toArray t) (isBs k y)
  | _, _, .nil, _, hy => nomatch hy
  | _, _, .cons (a := _) (b := b) h r, y, hy => by
    obtain ⟨u, rfl⟩ := h
    rcases List.mem_cons.mp hy with rfl | hy
    · exact eqGives_bs b k u t
    · exact eq_isBs k t r y hy
theorem in_list_bs {l : Addr} {vs : List Value} {bs : List (List UInt8)} {k : List UInt8} {t : Tok} (hl : s.heap.IsList l vs.toArray) (hi : BsAre vs bs)
    (h : Q (.bool (decide (k ∈ bs))) s) : wpAny (model PR w) A (compareOp .In (.bytes k.toArray t) (.ref l)) Q E s :=
  SeqInW.in_listW (isBs k) (fun y hy => eq_isBs k t hi y (by simpa using hy)) hl (by rw [← Array.any_toList, show vs.toArray.toList = vs from rfl, any_isBs k hi]; exact h)
theorem notin_list_bs {l : Addr} {vs : List Value} {bs : List (List UInt8)} {k : List UInt8} {t : Tok} (hl : s.heap.IsList l vs.toArray) (hi : BsAre vs bs)
    (h : Q (.bool (!decide (k ∈ bs))) s) : wpAny (model PR w) A (compareOp .NotIn (.bytes k.toArray t) (.ref l)) Q E s :=
  SeqInW.notIn_listW (isBs k) (fun y hy => eq_isBs k t hi y (by simpa using hy)) hl (by rw [← Array.any_toList, show vs.toArray.toList = vs from rfl, any_isBs k hi]; exact h)
end
end
theorem top_off_F12 : True := by (w_top off; trivial)
section
set_option maxRecDepth 100000
/-- the greatest of all rows -/
abbrev Mrow : List UInt8 := [255, 255, 255, 0, 0, 1]
def RowOk (r : List UInt8) : Prop := r.length = 3 ∨ r.length = 6
def ShOk (r0 r1 : List (List UInt8)) : Prop :=
  (∀ r ∈ r0, RowOk r) ∧ (∀ r ∈ r1, RowOk r) ∧ r0.Nodup ∧ r1.Nodup ∧ Mrow ∈ r0 ∧ (∀ r ∈ r0, r ≠ Mrow → Builtin.Bytes.order r Mrow = .lt) ∧ (∀ r ∈ r1, Builtin.Bytes.order r Mrow = .lt) ∧ [0, 16, 131] ∈ r1
def ShSt (l0 l1 ls : Addr) (m : Str → Option Value) (nx : List (Addr × Obj)) (c : Nat) : Prop :=
  ∃ v0 v1 n0 n1 r0 r1, nx = [(ls, W.listOf #[.ref l0, .ref l1] 0), (l1, W.listOf (List.toArray v1) n1), (l0, W.listOf (List.toArray v0) n0)] ∧ m "shelves" = some (.ref ls) ∧ BsAre v0 r0 ∧ BsAre v1 r1 ∧ ShOk r0 r1 ∧ r0.length ≤ c ∧ r1.length ≤ c
theorem shok_snoc0 {r0 r1 : List (List UInt8)} {row : List UInt8} (h : ShOk r0 r1) (h1 : row ∉ r0) (h2 : RowOk row) (h3 : Builtin.Bytes.order row Mrow = .lt) : ShOk (r0 ++ [row]) r1 := by
  obtain ⟨a, b, c, d, e, f, g, k⟩ := h
  refine ⟨fun r hr => ?_, b, ?_, d, List.mem_append_left _ e, fun r hr hne => ?_, g, k⟩
  · rcases List.mem_append.mp hr with hr | hr
    · exact a r hr
    · rw [List.mem_singleton.mp hr]; exact h2
  · refine List.nodup_append.mpr ⟨c, by simp, fun x hx y hy => ?_⟩
    rw [List.mem_singleton.mp hy]
    exact fun q => h1 (q ▸ hx)
  · rcases List.mem_append.mp hr with hr | hr
    · exact f r hr hne
    · rw [List.mem_singleton.mp hr]; exact h3
theorem shok_snoc1 {r0 r1 : List (List UInt8)} {row : List UInt8} (h : ShOk r0 r1) (h1 : row ∉ r1) (h2 : RowOk row) (h3 : Builtin.Bytes.order row Mrow = .lt) : ShOk r0 (r1 ++ [row]) := by
  obtain ⟨a, b, c, d, e, f, g, k⟩ := h
  refine ⟨a, fun r hr => ?_, c, ?_, e, f, fun r hr => ?_, List.mem_append_left _ k⟩
  · rcases List.mem_append.mp hr with hr | hr
    · exact b r hr
    · rw [List.mem_singleton.mp hr]; exact h2
  · refine List.nodup_append.mpr ⟨d, by simp, fun x hx y hy => ?_⟩
    rw [List.mem_singleton.mp hy]
    exact fun q => h1 (q ▸ hx)
  · rcases List.mem_append.mp hr with hr | hr
    · exact g r hr
    · rw [List.mem_singleton.mp hr]; exact h3
theorem sub3 {α : Type} {a b c d : α} {own own2 : List α} : (∀ p ∈ a :: b :: c :: d :: own, p ∈ a :: b :: c :: d :: (own ++ own2)) ∧ (∀ p ∈ own2, p ∈ a :: b :: c :: d :: (own ++ own2)) := by
  constructor
  · intro p hp
    simp only [List.mem_cons, List.mem_append] at hp ⊢
    rcases hp with h | h | h | h | h <;> simp [h]
  · intro p hp
    simp [hp]
theorem u8_toNat (a : Int) (h0 : 0 ≤ a) (h1 : a < 256) : (a.toNat.toUInt8).toNat = a.toNat := by
  show a.toNat % 256 = _
  omega
theorem row_lt (a b : Int) (a0 : 0 ≤ a) (a1 : a < 256) (b0 : 0 ≤ b) (b1 : b < 256) (r : List UInt8) : Builtin.Bytes.order (a.toNat.toUInt8 :: b.toNat.toUInt8 :: (255 - a).toNat.toUInt8 :: r) Mrow = .lt := by
  have l : ∀ p q : UInt8, (p < q ↔ p.toNat < q.toNat) := fun p q => UInt8.lt_iff_toNat_lt
  have g : ∀ p q : UInt8, (p > q ↔ q.toNat < p.toNat) := fun p q => UInt8.lt_iff_toNat_lt
  have e : (255 : UInt8).toNat = 255 := rfl
  simp only [Builtin.Bytes.order, l, g, e, u8_toNat a a0 a1, u8_toNat b b0 b1, u8_toNat (255 - a) (by omega) (by omega)]
  by_cases h1 : a.toNat < 255
  · rw [if_pos h1]
  · rw [if_neg h1, if_neg (by omega)]
    by_cases h2 : b.toNat < 255
    · rw [if_pos h2]
    · rw [if_neg h2, if_neg (by omega), if_pos (by omega)]
theorem bytes_K2 {w : World} {A : Around} {E : Value → Shared → Prop} {s : Shared} {h₀ : Heap} {L l : Addr} {m : Str → Option Value} {news : List (Addr × Obj)} {vs : List Value} {ns : List Int} {row : List UInt8} {Q : Value → Shared → Prop} (e : (ns.map fun n => n.toNat.toUInt8) = row) (F : Fr h₀ L s.heap m) (N : News h₀ L s.heap news) (hl : s.heap.IsList l vs.toArray) (hi : IntsAre vs ns) (hr : ∀ n ∈ ns, 0 ≤ n ∧ n < 256) (hz : vs.length ≤ sizeLine) (hh : A.handled = none)
    (h : ∀ h' t k, Fr h₀ L h' m → News h₀ L h' news → Q (.bytes row.toArray t) { s with heap := h', toks := k }) : wpAny (model PR w) A (call (.type "bytes") [.ref l]) Q E s :=
  bytes_K F N hl hi hr hz hh fun h' t k F' N' _ => by subst e; exact h h' t k F' N'
theorem fmod_lo (x k : Int) (h : 0 < k) : 0 ≤ x.fmod k := Int.fmod_nonneg_of_pos _ h
theorem fmod_hi (x k : Int) (h : 0 < k) : x.fmod k < k := Int.fmod_lt_of_pos _ h
local macro_rules | `(tactic| walk_at "compareOp NotIn bytes ref") => `(tactic| ((with_reducible rename News _ _ _ _ => N'); (refine' notin_list_bs ⟨_, (N' (_, _) ?zm).1, rfl, _, rfl⟩ ?zx ?_; (case zm => k_mem); (case zx => assumption))))
section
variable {w : World} {p : Program} {loose : List Str} {mean : ExcName → Option Value} {mg mb : Str → Option Value} {dp un : Nat} {fr : Option (List Env)} {gd : Option (List Code)} {E Q : Value → Shared → Prop} {s : Shared}
set_option maxHeartbeats 4000000 in
theorem shelves_call {a : Addr} {vs : List Value} {ns : List Int}
    (X : (Mine.hd.heap_39 w.params).In s.heap) (T : Top p loose mean mg mb s.heap) (hdp : dp + 3 < recursionLimit) (hu : un + 80 < cLine) (ha : s.heap.IsList a vs.toArray) (hv : IntsAre vs ns) (hn : ns.length ≤ 6)
    (hQ : ∀ l0 l1 ls v0 v1 r0 r1 h' tk, s.heap.StaysIn h' → h'.PlainList ls #[.ref l0, .ref l1] → h'.PlainList l0 (List.toArray v0) → h'.PlainList l1 (List.toArray v1) → BsAre v0 r0 → BsAre v1 r1 → ShOk r0 r1 → r0.length ≤ 14 → r1.length ≤ 14 → s.heap.get? ls = none → s.heap.get? l0 = none → s.heap.get? l1 = none → Q (.ref ls) { s with heap := h', toks := tk }) :
    wpAny (model PR w) (MA dp un fr gd) (call (.ref 130) [.ref a]) Q E s := by
  walk_at "mine fill"
  k_dflt (refine' call_my (binds := [("numbers", .ref a)]) ?k3 ?k5 ?k6 ?k7 ?k8 ?k9 ?kB ?_ ?c2 ?c3 ?c4 ?c5; walk_at "mine sides"; intro L' h' tk' F' N'; (try dsimp only))
  walk_at "mine steps"
  rename Fr _ _ _ _ => FF
  rename News _ _ _ _ => NN
  refine For_invVF FF rfl rfl ?_ (by intro _; rfl) PassesOwn.never
  walk_at "mine steps"
  rename Fr _ _ _ _ => F2
  rename News _ _ _ _ => N2
  rename_i l0 _ _ l1 _ k1 ls _ k2 _
  refine iter_invG (m₀ := _) (fun i m nx => ShSt l0 l1 ls m nx (2 + 2 * i)) rfl ha hv F2 N2 ⟨_, _, _, _, [[0, 16, 131], Mrow], [[0, 16, 131], [251, 239, 190]], rfl, ?_, .cons ⟨_, rfl⟩ (.cons ⟨_, rfl⟩ .nil), .cons ⟨_, rfl⟩ (.cons ⟨_, rfl⟩ .nil), ?_, by decide, by decide⟩ ?_ ?_
  · walk_at "mine look"
  · refine ⟨by simp [RowOk], by simp [RowOk], by decide, by decide, by decide, ?_, ?_, by decide⟩
    · intro r hr hne
      simp only [List.mem_cons, List.not_mem_nil, or_false] at hr
      rcases hr with rfl | rfl
      · decide
      · exact absurd rfl hne
    · intro r hr
      simp only [List.mem_cons, List.not_mem_nil, or_false] at hr
      rcases hr with rfl | rfl <;> decide
  · clear F2 N2
    rintro i n t m₁ nx h tk2 own hni - hoff ⟨v0, v1, n0, n1, r0, r1, rfl, hsh, hb0, hb1, hok, hc0, hc1⟩ F1 N1
    dsimp only [List.cons_append, List.nil_append] at N1
    have hi6 : i < 6 := Nat.lt_of_lt_of_le (List.getElem?_eq_some_iff.mp hni).1 hn
    have a0 := fmod_lo (n.fdiv 3) 256 (by decide)
    have a1 := fmod_hi (n.fdiv 3) 256 (by decide)
    have b0 := fmod_lo ((n.fdiv 3).fdiv 7) 256 (by decide)
    have b1 := fmod_hi ((n.fdiv 3).fdiv 7) 256 (by decide)
    walk_at "mine steps"
    focus
      rename Fr _ _ _ _ => F3
      rename News _ _ _ _ => N3
      obtain ⟨row, hrow⟩ : ∃ row : List UInt8, (([(n.fdiv 3).fmod 256, ((n.fdiv 3).fdiv 7).fmod 256, 255 - (n.fdiv 3).fmod 256, 255 - (n.fdiv 3).fmod 256, ((n.fdiv 3).fdiv 7).fmod 256, (n.fdiv 3).fmod 256] : List Int).map fun n => n.toNat.toUInt8) = row := ⟨_, rfl⟩
      have hr1 : Builtin.Bytes.order row Mrow = .lt := hrow ▸ row_lt _ _ a0 a1 b0 b1 [(255 - (n.fdiv 3).fmod 256).toNat.toUInt8, (((n.fdiv 3).fdiv 7).fmod 256).toNat.toUInt8, ((n.fdiv 3).fmod 256).toNat.toUInt8]
      have hr2 : RowOk row := .inr (by rw [← hrow]; rfl)
      refine bytes_K2 hrow F3 N3 ⟨_, (N3 _ (List.Mem.head _)).1, rfl, _, rfl⟩ (.cons _ _ (.cons _ _ (.cons _ _ (.cons _ _ (.cons _ _ (.cons _ _ .nil)))))) (by intro z hz; simp only [List.mem_cons, List.not_mem_nil, or_false] at hz; omega) (by simp only [List.length_cons, List.length_nil, sizeLine_eq]; omega) rfl fun h6 t6 k6 F6 N6 => ?_
      clear hrow
      have N8 : News s.heap L' h6 ((ls, W.listOf #[Value.ref l0, Value.ref l1] 0) :: (l1, W.listOf v1.toArray n1) :: (l0, W.listOf v0.toArray n0) :: own) := fun q hq => N6 q (by first | exact List.mem_cons_of_mem _ hq | exact List.mem_cons_of_mem _ (List.mem_cons_of_mem _ hq) | exact List.mem_cons_of_mem _ (List.mem_cons_of_mem _ (List.mem_cons_of_mem _ hq)))
      clear F3 N3 N6
      walk_at "mine steps"
    rotate_left
    focus
      rename Fr _ _ _ _ => F3
      rename News _ _ _ _ => N3
      obtain ⟨row, hrow⟩ : ∃ row : List UInt8, (([(n.fdiv 3).fmod 256, ((n.fdiv 3).fdiv 7).fmod 256, 255 - (n.fdiv 3).fmod 256] : List Int).map fun n => n.toNat.toUInt8) = row := ⟨_, rfl⟩
      have hr1 : Builtin.Bytes.order row Mrow = .lt := hrow ▸ row_lt _ _ a0 a1 b0 b1 []
      have hr2 : RowOk row := .inl (by rw [← hrow]; rfl)
      refine bytes_K2 hrow F3 N3 ⟨_, (N3 _ (List.Mem.head _)).1, rfl, _, rfl⟩ (.cons _ _ (.cons _ _ (.cons _ _ .nil))) (by intro z hz; simp only [List.mem_cons, List.not_mem_nil, or_false] at hz; omega) (by simp only [List.length_cons, List.length_nil, sizeLine_eq]; omega) rfl fun h6 t6 k6 F6 N6 => ?_
      clear hrow
      have N8 : News s.heap L' h6 ((ls, W.listOf #[Value.ref l0, Value.ref l1] 0) :: (l1, W.listOf v1.toArray n1) :: (l0, W.listOf v0.toArray n0) :: own) := fun q hq => N6 q (by first | exact List.mem_cons_of_mem _ hq | exact List.mem_cons_of_mem _ (List.mem_cons_of_mem _ hq) | exact List.mem_cons_of_mem _ (List.mem_cons_of_mem _ (List.mem_cons_of_mem _ hq)))
      clear F3 N3 N6
      walk_at "mine steps"
    all_goals
      rename Fr _ _ _ _ => F7
      rename News _ _ _ _ => N7
      refine For_invVF F7 rfl rfl ?_ (by intro _; rfl) PassesOwn.never
      have m0 := fmod_lo n 3 (by decide)
      have m1 := fmod_hi n 3 (by decide)
      walk_at "mine steps"
    all_goals
      rename Fr _ _ _ _ => F9
      rename News _ _ _ _ => N9
      rename_i la _ ka lb _ kb lc _ kc lw _ kw
      obtain ⟨lp, ws, hp, hm, hw1, hw2, hlp0, hlp1, hlps⟩ : ∃ lp ws, ([.ref la, .ref lb, .ref lc] : List Value)[(n.fmod 3).toNat]? = some (.ref lp) ∧ (lp, W.listOf (List.toArray ws) 0) ∈ ((lw, W.listOf #[Value.ref la, Value.ref lb, Value.ref lc] 0) ::
          (lc, W.listOf #[Value.int 0 (tk + 1 + 1), Value.int 1 (tk + 1 + 1 + 1)] 0) :: (lb, W.listOf #[Value.int 1 (tk + 1)] 0) :: (la, W.listOf #[Value.int 0 tk] 0) ::
            (ls, W.listOf #[Value.ref l0, Value.ref l1] 0) :: (l1, W.listOf v1.toArray n1) :: (l0, W.listOf v0.toArray n0) :: own) ∧ ws.length ≤ 2 ∧ (∀ v ∈ ws, (∃ t, v = .int 0 t) ∨ (∃ t, v = .int 1 t)) ∧ @LT.lt Nat _ l0 lp ∧ @LT.lt Nat _ l1 lp ∧ @LT.lt Nat _ ls lp := by
        have h3 : n.fmod 3 = 0 ∨ n.fmod 3 = 1 ∨ n.fmod 3 = 2 := by omega
        rcases h3 with h3 | h3 | h3
        · exact ⟨la, [_], by rw [h3]; rfl, List.mem_of_getElem? (i := 3) rfl, by simp, fun v hv => .inl ⟨_, List.mem_singleton.mp hv⟩, ka.2.2.1, ka.2.1, ka.1⟩
        · exact ⟨lb, [_], by rw [h3]; rfl, List.mem_of_getElem? (i := 2) rfl, by simp, fun v hv => .inr ⟨_, List.mem_singleton.mp hv⟩, kb.2.2.2.1, kb.2.2.1, kb.2.1⟩
        · refine ⟨lc, [_, _], by rw [h3]; rfl, List.mem_of_getElem? (i := 1) rfl, by simp, fun v hv => ?_, kc.2.2.2.2.1, kc.2.2.2.1, kc.2.2.1⟩
          rcases List.mem_cons.mp hv with rfl | hv
          · exact .inl ⟨_, rfl⟩
          · exact .inr ⟨_, List.mem_singleton.mp hv⟩
      refine item_listL (l := [.ref la, .ref lb, .ref lc]) ⟨_, (N9 _ (List.Mem.head _)).1, rfl, _, rfl⟩ m0 (by omega) hp ?_ (by with_unfolding_all rfl) (by intro _; with_unfolding_all rfl)
      walk_at "mine steps"
    all_goals
      have NX : News s.heap L' _ ((lp, W.listOf (List.toArray ws) 0) :: (ls, W.listOf #[Value.ref l0, Value.ref l1] 0) :: (l1, W.listOf v1.toArray n1) :: (l0, W.listOf v0.toArray n0) :: own) := fun q hq => by
        rcases List.mem_cons.mp hq with rfl | hq
        · exact N9 _ hm
        · exact N9 q (List.mem_cons_of_mem _ (List.mem_cons_of_mem _ (List.mem_cons_of_mem _ (List.mem_cons_of_mem _ hq))))
      refine kdl_iter (m₀ := _) (nn := 0) (vs := ws) (news := (lp, W.listOf (List.toArray ws) 0) :: (ls, W.listOf #[Value.ref l0, Value.ref l1] 0) :: (l1, W.listOf v1.toArray n1) :: (l0, W.listOf v0.toArray n0) :: own) (fun j m nx => ∃ v0 v1 n0 n1 r0 r1, nx = (lp, W.listOf (List.toArray ws) 0) :: (ls, W.listOf #[Value.ref l0, Value.ref l1] 0) :: (l1, W.listOf (List.toArray v1) n1) :: (l0, W.listOf (List.toArray v0) n0) :: own ∧ m "shelves" = some (.ref ls) ∧ m "row" = some (.bytes row.toArray t6) ∧ BsAre v0 r0 ∧ BsAre v1 r1 ∧ ShOk r0 r1 ∧ r0.length ≤ 2 + 2 * i + j ∧ r1.length ≤ 2 + 2 * i + j) rfl (List.Mem.head _) F9 NX ⟨v0, v1, n0, n1, r0, r1, rfl, ?_, ?_, hb0, hb1, hok, by omega, by omega⟩ ?_ ?_
      · walk_at "mine look"
      · walk_at "mine look"
      · clear N9 NX F9 hb0 hb1 hok hc0 hc1 hsh
        rintro j v m2 nx h2 tk3 own2 hvj hoff2 - ⟨v0, v1, n0, n1, r0, r1, rfl, hsh, hrow, hb0, hb1, hok, hc0, hc1⟩ F1 N1
        have e0 := bs_len hb0
        have e1 := bs_len hb1
        have hj2 : j < 2 := Nat.lt_of_lt_of_le (List.getElem?_eq_some_iff.mp hvj).1 hw1
        have z0 : v0.toArray.size ≤ sizeLine := by rw [List.size_toArray, e0, sizeLine_eq]; omega
        have z1 : v1.toArray.size ≤ sizeLine := by rw [List.size_toArray, e1, sizeLine_eq]; omega
        have hoff3 : OwnOff (own ++ own2) [ls, l1, l0] := fun p hp b hb => by
          rcases List.mem_append.mp hp with hp | hp
          · exact hoff p hp b hb
          · exact hoff2 p hp b (by simp only [List.mem_cons, List.not_mem_nil, or_false] at hb; simp only [List.map_cons, List.mem_cons]; rcases hb with rfl | rfl | rfl <;> simp)
        dsimp only [List.cons_append] at N1
        obtain ⟨own3, ho3⟩ : ∃ o, o = own ++ own2 := ⟨_, rfl⟩
        rw [← ho3] at N1 hoff3
        rcases hw2 v (List.mem_of_getElem? hvj) with ⟨t7, rfl⟩ | ⟨t7, rfl⟩
        · walk_at "mine steps"
          refine notin_list_bs (vs := v0) (bs := r0) ⟨_, (N1 _ (List.mem_of_getElem? (i := 3) rfl)).1, rfl, _, rfl⟩ hb0 ?_
          walk_at "mine steps"
          · rename Fr _ _ _ _ => F5
            rename News _ _ _ _ => N5
            subst ho3
            refine InvEndG.intro F5 N5 ⟨List.Mem.head _, v0, v1, n0, n1, r0, r1, rfl, ?_, ?_, hb0, hb1, hok, ?_, ?_⟩ hoff2 sub3.1 sub3.2
            · exact hsh
            · exact hrow
            · omega
            · omega
          · rename ¬ (row ∈ _) => hnot
            rename Fr _ _ _ _ => F5
            rename News _ _ _ _ => N5
            rw [List.push_toArray] at N5
            subst ho3
            refine InvEndG.intro F5 N5 ⟨List.Mem.head _, v0 ++ [_], v1, n0 + 1, n1, r0 ++ [row], r1, rfl, ?_, ?_, bs_snoc hb0, hb1, shok_snoc0 hok hnot hr2 hr1, ?_, ?_⟩ hoff2 sub3.1 sub3.2
            · exact hsh
            · exact hrow
            · (try simp only [List.length_append, List.length_cons, List.length_nil]); omega
            · (try simp only [List.length_append, List.length_cons, List.length_nil]); omega
        · walk_at "mine steps"
          refine notin_list_bs (vs := v1) (bs := r1) ⟨_, (N1 _ (List.mem_of_getElem? (i := 2) rfl)).1, rfl, _, rfl⟩ hb1 ?_
          walk_at "mine steps"
          · rename Fr _ _ _ _ => F5
            rename News _ _ _ _ => N5
            subst ho3
            refine InvEndG.intro F5 N5 ⟨List.Mem.head _, v0, v1, n0, n1, r0, r1, rfl, ?_, ?_, hb0, hb1, hok, ?_, ?_⟩ hoff2 sub3.1 sub3.2
            · exact hsh
            · exact hrow
            · omega
            · omega
          · rename ¬ (row ∈ _) => hnot
            rename Fr _ _ _ _ => F5
            rename News _ _ _ _ => N5
            rw [List.push_toArray] at N5
            subst ho3
            refine InvEndG.intro F5 N5 ⟨List.Mem.head _, v0, v1 ++ [_], n0, n1 + 1, r0, r1 ++ [row], rfl, ?_, ?_, hb0, bs_snoc hb1, shok_snoc1 hok hnot hr2 hr1, ?_, ?_⟩ hoff2 sub3.1 sub3.2
            · exact hsh
            · exact hrow
            · (try simp only [List.length_append, List.length_cons, List.length_nil]); omega
            · (try simp only [List.length_append, List.length_cons, List.length_nil]); omega
      · clear N9 NX F9 hb0 hb1 hok hc0 hc1 hsh
        rintro m2 nx h2 tk3 ⟨v0, v1, n0, n1, r0, r1, rfl, hsh, hrow, hb0, hb1, hok, hc0, hc1⟩ F1 N1
        walk_at "mine steps"
        refine InvEndG.intro F1 N1 ⟨v0, v1, n0, n1, r0, r1, rfl, hsh, hb0, hb1, hok, ?_, ?_⟩ hoff (fun q hq => List.mem_cons_of_mem _ (by simp only [List.mem_cons, List.not_mem_nil, or_false] at hq ⊢; rcases hq with h | h | h <;> simp [h])) (fun q hq => by simp [hq])
        · omega
        · omega
  · clear F2 N2
    rintro m₁ nx h tk2 ⟨v0, v1, n0, n1, r0, r1, rfl, hsh, hb0, hb1, hok, hc0, hc1⟩ F1 N1
    walk_at "mine steps"
    exact hQ l0 l1 ls v0 v1 r0 r1 _ _ F1.keep ⟨_, (N1 _ (List.mem_of_getElem? (i := 0) rfl)).1⟩ ⟨_, (N1 _ (List.mem_of_getElem? (i := 2) rfl)).1⟩ ⟨_, (N1 _ (List.mem_of_getElem? (i := 1) rfl)).1⟩ hb0 hb1 hok (by omega) (by omega) (N1 _ (List.mem_of_getElem? (i := 0) rfl)).2.2 (N1 _ (List.mem_of_getElem? (i := 2) rfl)).2.2 (N1 _ (List.mem_of_getElem? (i := 1) rfl)).2.2
end
end
section
open Builtin.Bytes (order)
theorem ord_app (a : List UInt8) : ∀ (x y : List UInt8), order (a ++ x) (a ++ y) = order x y := by
  induction a with
  | nil => intro x y; rfl
  | cons c a ih =>
    intro x y
    have h : ¬ c < c := fun h => by have := UInt8.lt_iff_toNat_lt.mp h; omega
    simp [order, h, ih]
theorem hx_lt {m n : Nat} (hm : m < 16) (hn : n < 16) : (hx m < hx n ↔ m < n) := by
  rw [UInt8.lt_iff_toNat_lt, hx_toNat m hm, hx_toNat n hn]; omega
theorem ord_two (o p : UInt8) (x y : List UInt8) : order (two o ++ x) (two p ++ y) = if o < p then .lt else if o > p then .gt else order x y := by
  have l : ∀ p q : UInt8, (p < q ↔ p.toNat < q.toNat) := fun p q => UInt8.lt_iff_toNat_lt
  have g : ∀ p q : UInt8, (p > q ↔ q.toNat < p.toNat) := fun p q => UInt8.lt_iff_toNat_lt
  have ho := o.toNat_lt
  have hp := p.toNat_lt
  simp only [two, List.cons_append, List.nil_append, order, l, g, hx_toNat (o.toNat / 16) (by omega), hx_toNat (p.toNat / 16) (by omega), hx_toNat (o.toNat % 16) (by omega), hx_toNat (p.toNat % 16) (by omega)]
  by_cases h1 : o.toNat / 16 < p.toNat / 16
  · rw [if_pos (by omega), if_pos (by omega)]
  · rw [if_neg (by omega)]
    by_cases h2 : p.toNat / 16 < o.toNat / 16
    · rw [if_pos (by omega), if_neg (by omega), if_pos (by omega)]
    · rw [if_neg (by omega)]
      by_cases h3 : o.toNat % 16 < p.toNat % 16
      · rw [if_pos (by omega), if_pos (by omega)]
      · rw [if_neg (by omega)]
        by_cases h4 : p.toNat % 16 < o.toNat % 16
        · rw [if_pos (by omega), if_neg (by omega), if_pos (by omega)]
        · rw [if_neg (by omega), if_neg (by omega), if_neg (by omega)]
theorem ord_twos : ∀ a b : List UInt8, order (a.flatMap two) (b.flatMap two) = order a b
  | [], [] => rfl
  | [], b :: bs => by simp [two, order]
  | a :: as, [] => by simp [two, order]
  | a :: as, b :: bs => by
    rw [List.flatMap_cons, List.flatMap_cons, ord_two, ord_twos as bs]
    rfl
theorem ord_due (a b : List UInt8) : order (due a) (due b) = order a b := by
  have e : order (due a) (due b) = order ([66] ++ a.flatMap two) ([66] ++ b.flatMap two) := rfl
  rw [e, ord_app, ord_twos]
theorem due_inj {a b : List UInt8} (h : due a = due b) : a = b := ord_eq (by rw [← ord_due, h]; exact ord_self _)
theorem rising_due {l : List (List UInt8)} (h : Rising l) : Rising (l.map due) := List.pairwise_map.mpr (h.imp fun {a b} h => by rw [ord_due]; exact h)
/-- the list told in rising order, when no two are alike -/
theorem rising_unique {l m : List (List UInt8)} (hp : l.Perm m) (hl : Rising l) (hm : Rising m) : l = m :=
  hp.eq_of_pairwise (fun a b _ _ h1 h2 => by have := ord_trans h1 h2; rw [ord_self] at this; cases this) hl hm
theorem cmp_due (a b : List UInt8) : cmpInt (due a) (due b) = cmpInt a b := by unfold cmpInt; rw [ord_due]
end
section
set_option maxRecDepth 100000
/-- what is iterated, with an iterator of its own that alone is written -/
structure SrcR (w : World) (A : Around) (h : Heap) (xv : Value) (n : Nat) (P : Nat → Value → Prop) : Prop where
  go : ∀ (s : Shared) (E Q : Value → Shared → Prop), s.heap = h →
    (∀ I St h₂, Walks PR w A I [I] [I] n P St → St 0 h₂ → I < h₂.objs.size → h.StaysIn h₂ → h.get? I = none → h.objs.size ≤ h₂.objs.size → Q (.ref I) { s with heap := h₂ }) →
    wpAny (model PR w) A (pyIter xv) Q E s
theorem src_range {w : World} {A : Around} {h : Heap} {r : Addr} {a b c : Int} {t u v : Tok} {n : Nat} (hh : A.handled = none) (hr : IsRange h r a b c t u v) (hsmall : Builtin.Range.small a b c = true) (hsz : Builtin.Range.rangeSize a b c = (n : Int)) :
    SrcR w A h (.ref r) n (fun i v => i < n ∧ ∃ t, v = .int (a + i * c) t) := ⟨by
  rintro s E Q rfl hQ
  refine wpAny_pyIter_range hr hsmall ?_
  refine hQ s.heap.objs.size _ _ (Walks.range (prog := PR) (w := w) hh s.heap.objs.size a c n).bound ?_ ?_ (fun b o e => Heap.get?_push_of_some _ e) (none_at (Nat.le_refl _)) (by rw [Heap.size_push]; exact Nat.le_succ _)
  · show IsRangeIter _ _ _ _ _; rw [hsz]; simpa using Heap.get?_push_size _ rfl
  · rw [Heap.size_push]; exact Nat.lt_succ_self _⟩
section
variable {w : World} {A : Around} {elt iter1 iter2 : PySem.Expr} {x z : Str} {px pz pos : Pos} {ifs : List PySem.Expr} {scope : Scope}
abbrev Two (elt iter1 iter2 : PySem.Expr) (x z : Str) (px pz : Pos) (ifs : List PySem.Expr) (scope : Scope) (pos : Pos) : PySem.Expr := .ListComp elt [⟨.Name x px, iter1, [], 0⟩, ⟨.Name z pz, iter2, ifs, 0⟩] scope pos
theorem turn_in (it acc : Value) (env : Env) :
    compTurn (Two elt iter1 iter2 x z px pz ifs scope pos) 1 it acc env = (do
      standAt iter2.pos
      match ← pyNext it with
      | none => pure (.done .next)
      | some v =>
        letOwnedTupleGo (.Name z pz) it v
        assign (.Name z pz) env v
        let mut ok := true
        for c in ifs do
          if ok then ok ← isTrue c env (eval c env)
        if ok then
          (do let _ ← call (.builtin "list.append") [acc, ← eval elt env])
        again (.compLoop (Two elt iter1 iter2 x z px pz ifs scope pos) 1 it acc env)) := by rfl
theorem turn_out (it acc : Value) (env : Env) :
    compTurn (Two elt iter1 iter2 x z px pz ifs scope pos) 0 it acc env = (do
      standAt iter1.pos
      match ← pyNext it with
      | none => pure (.done .next)
      | some v =>
        letOwnedTupleGo (.Name x px) it v
        assign (.Name x px) env v
        let q ← eval iter2 env
        standAt iter2.pos
        let q ← foldedSetIterable iter2 env q
        let _ ← runOwn (.compStart (Two elt iter1 iter2 x z px pz ifs scope pos) 1 (← holding [q] (pyIter q)) acc env) env
        again (.compLoop (Two elt iter1 iter2 x z px pz ifs scope pos) 0 it acc env)) := by rfl
theorem start_in {it acc : Value} {env : Env} {R : Result → Shared → Prop} {s : Shared}
    (h0 : codeAny (model PR w) A (.compLoop (Two elt iter1 iter2 x z px pz ifs scope pos) 1 it acc env) R s)
    (h : wpAny (model PR w) A (pyIter it) (fun it' s' => codeAny (model PR w) A (.compLoop (Two elt iter1 iter2 x z px pz ifs scope pos) 1 it' acc env) R s')
      (notedBy (model PR w) A env fun x s' => R (.error x) s') s) :
    codeAny (model PR w) A (.compStart (Two elt iter1 iter2 x z px pz ifs scope pos) 1 it acc env) R s := by
  refine codeAny_of_tree ?_
  show wpAny _ _ ((compStart (Two elt iter1 iter2 x z px pz ifs scope pos) 1 it acc env).onRaise (fun x => do noteFrame x env; standAt theWindowsPlace)) _ _ s
  refine wpAny_notedAt ?_
  unfold compStart
  show wpAny _ _ (ask >>= _) _ _ s
  refine wpAny_bind (wpAny_askSetting (wpAny_ite ?_))
  split
  · first
      | exact wpAny_bind (wpAny_pure (wpAny_pure (And.intro rfl h0)))
      | exact wpAny_pure (And.intro rfl h0)
  · refine wpAny_bind (wpAny_rule ?_)
    show wpAny _ _ (standAt iter2.pos >>= _) _ _ s
    exact wpAny_bind (wpAny_standAt (wpAny_bind (wpAny_mono h (fun it' s' h' => wpAny_pure (And.intro rfl h')) fun _ _ x => x)))
theorem inner_none {I : Addr} {fp wr : List Addr} {n : Nat} {P : Nat → Value → Prop} {St : Nat → Heap → Prop} {cenv : Env} {acc v : Value} {m : Str → Option Value} {R : Result → Shared → Prop} {s : Shared}
    (W : Walks PR w A I fp wr n P St) (hxz : x ≠ z) (hz : cenv.kindOf z = some .local) (hp : (cenv.scope.kind == .class || (cenv.scope.kind == .module && cenv.locals != cenv.globals)) = false)
    (hCf : cenv.locals ∉ fp) (hst : St 0 s.heap) (hn : s.heap.Ns cenv.locals m) (hm : m x = some v)
    (htests : ∀ j v2 s₂ m₂ E', P j v2 → s₂.heap.Ns cenv.locals m₂ → m₂ x = some v → m₂ z = some v2 → (∀ b o, b ≠ cenv.locals → b ∉ wr → s.heap.get? b = some o → s₂.heap.get? b = some o) →
      wpAny (model PR w) A (lcTests ifs cenv) (fun ok s₃ => ok = false ∧ Keeps s₂ s₃) E' s₂)
    (hR : ∀ h' tk m', h'.Ns cenv.locals m' → (∀ b o, b ≠ cenv.locals → b ∉ wr → s.heap.get? b = some o → h'.get? b = some o) → R (.ok .next) { s with heap := h', toks := tk }) :
    codeAny (model PR w) A (.compLoop (Two elt iter1 iter2 x z px pz ifs scope pos) 1 (.ref I) acc cenv) R s := by
  have hCw : cenv.locals ∉ wr := fun h => hCf (W.sub _ h)
  refine codeAny_loop rfl (fun k s' => ∃ h' tk m', ∃ i, s' = { s with heap := h', toks := tk } ∧ St i h' ∧ h'.Ns cenv.locals m' ∧ m' x = some v ∧ i ≤ n ∧ k = n + 1 - i ∧
      (∀ b o, b ≠ cenv.locals → b ∉ wr → s.heap.get? b = some o → h'.get? b = some o)) (fun k s' hI => ?_) (n + 1)
    ⟨s.heap, s.toks, m, 0, rfl, hst, hn, hm, Nat.zero_le _, rfl, fun _ _ _ _ e => e⟩
  obtain ⟨H, tk, m', i, rfl, hst', hn', hm', hi, rfl, hk⟩ := hI
  show wpAny _ A ((compTurn (Two elt iter1 iter2 x z px pz ifs scope pos) 1 (.ref I) acc cenv).onRaise (fun x => do noteFrame x cenv; theTreesLotGoes x)) _ _ _
  refine wpAny_noted ?_
  rw [turn_in]
  refine wpAny_bind (wpAny_standAt (wpAny_bind ?_))
  by_cases hlt : i < n
  · refine W.item i _ _ _ hlt hst' fun v2 h₁ tk₁ hPv hst₁ hk₁ => ?_
    show wpAny _ _ (letOwnedTupleGo _ _ _ >>= _) _ _ _
    refine wpAny_bind (wpAny_of_eq (rfl : letOwnedTupleGo (.Name z pz) (.ref I) v2 = pure ()) (wpAny_bind ?_))
    refine wpAny_assign_Name (wpAny_storeName_local hz (hn'.at' fun o e => hk₁ _ o hCw e) (fun h₂ hn₂ hs₂ => ?_) hp)
    have up₂ : ∀ b o, b ≠ cenv.locals → b ∉ wr → H.get? b = some o → h₂.get? b = some o := fun b o hbC hbf e => hs₂.extBut b o hbC (hk₁ b o hbf e)
    have hst₂ : St (i + 1) h₂ := W.frame _ _ _ hst₁ fun b hb o e => hs₂.extBut b o (fun h => hCf (h ▸ hb)) e
    refine wpAny_bind (wpAny_mono (htests i v2 _ _ _ hPv hn₂ (by rw [if_neg hxz]; exact hm') (if_pos rfl) fun b o hbC hbf e => up₂ b o hbC hbf (hk b o hbC hbf e)) (fun ok s₃ h₃ => ?_) fun _ _ e => e)
    obtain ⟨rfl, h₃, tk₃, rfl, hk₃⟩ := h₃
    refine wpAny_pure ⟨rfl, n + 1 - (i + 1), by omega, h₃, tk₃, _, i + 1, rfl, W.frame _ _ _ hst₂ fun b _ o e => hk₃ b o e, hn₂.keeps hk₃, by rw [if_neg hxz]; exact hm', hlt, rfl, fun b o hbC hbf e => hk₃ b o (up₂ b o hbC hbf (hk b o hbC hbf e))⟩
  · have hin : i = n := by omega
    subst hin
    refine W.done _ _ _ hst' fun h₁ tk₁ hk₁ => ?_
    exact wpAny_pure (hR h₁ tk₁ m' (hn'.at' fun o e => hk₁ _ o hCw e) fun b o hbC hbf e => hk₁ b o hbf (hk b o hbC hbf e))
theorem lc2_none {E : Value → Shared → Prop} {s : Shared} {env : Env} {cl : List (Str × Addr)} {n n2 : Nat} {P P2 : Nat → Value → Prop} {Q : Value → Shared → Prop} (hxz : x ≠ z)
    (hclos : closureFor scope env = pure cl) (hcell : ∀ y ∈ scope.names, y.2 ≠ .cell) (hkind : scope.kind = .function)
    (hnames : ∀ y ∈ scope.names, y.2 = .local → scope.names.lookup y.1 = some .local) (hx : scope.names.lookup x = some .local) (hz : scope.names.lookup z = some .local)
    (h : wpAny (model PR w) A (eval iter1 env) (fun xv s₁ => SrcR w A s₁.heap xv n P ∧
      (∀ C i v s₃ m₃ E', P i v → s₁.heap.objs.size ≤ C → s₃.heap.Ns C m₃ → m₃ x = some v → s₁.heap.StaysIn s₃.heap →
        wpAny (model PR w) A (eval iter2 (compEnvC scope cl C env)) (fun xv2 s₄ => SrcR w A s₄.heap xv2 n2 P2 ∧ Keeps s₃ s₄) E' s₃) ∧
      (∀ C i j v v2 s₃ m₃ E', P i v → P2 j v2 → s₁.heap.objs.size ≤ C → s₃.heap.Ns C m₃ → m₃ x = some v → m₃ z = some v2 → s₁.heap.StaysIn s₃.heap →
        wpAny (model PR w) A (lcTests ifs (compEnvC scope cl C env)) (fun ok s₄ => ok = false ∧ Keeps s₃ s₄) E' s₃) ∧
      (∀ D h' tk, s₁.heap.get? D = none → h'.PlainList D #[] → s₁.heap.StaysIn h' → Q (.ref D) { s₁ with heap := h', toks := tk })) E s)
    (hs1 : ∀ x, foldedSetIterable iter1 env x = pure x) (hs2 : ∀ C x, foldedSetIterable iter2 (compEnvC scope cl C env) x = pure x) :
    wpAny (model PR w) A (eval (Two elt iter1 iter2 x z px pz ifs scope pos) env) Q E s := by
  rw [eval_ListComp]
  refine wpAny_comprehension_free (use := none) rfl hs1 hclos hkind hnames (wpAny_mono h (fun xv s₁ h₁ => ?_) fun _ _ e => e)
  obtain ⟨hsrc, hit2, ht, hQ⟩ := h₁
  refine hsrc.go s₁ E _ rfl fun I St h₂ W hst hI hup hIn hle => ?_
  refine wpAny_newObj_type (wpAny_newFunctionEnv hcell (by intro y hy; simp at hy) (fun h₃ hns₃ hsb₃ => ?_) hkind)
  dsimp only at hns₃ hsb₃ ⊢
  generalize hH2 : h₂.push { cls := .type "list", dict := none, data := .seq ([] : List Value).toArray } = H2 at hns₃ hsb₃ ⊢
  have hC : H2.objs.size = h₂.objs.size + 1 := by rw [← hH2, Heap.size_push]
  have hCI : H2.objs.size ≠ I := by rw [hC]; exact Ne.symm (Nat.ne_of_lt (Nat.lt_succ_of_lt hI))
  have hDI : h₂.objs.size ≠ I := Ne.symm (Nat.ne_of_lt hI)
  have hDC : h₂.objs.size ≠ H2.objs.size := by rw [hC]; exact Nat.ne_of_lt (Nat.lt_succ_self _)
  have below : ∀ b, b < h₂.objs.size → b ≠ H2.objs.size := fun b hb => by rw [hC]; exact Nat.ne_of_lt (Nat.lt_succ_of_lt hb)
  have old : ∀ b o, h₂.get? b = some o → h₃.get? b = some o := fun b o e => hsb₃.extBut b o (below b (Heap.lt_size e)) (Heap.get?_push_of_some _ (hH2 ▸ Heap.get?_push_of_some _ e))
  have hacc : h₃.PlainList h₂.objs.size #[] := ⟨_, hsb₃.extBut _ _ hDC (Heap.get?_push_of_some _ (hH2 ▸ Heap.get?_push_size _ rfl))⟩
  have hst₃ : St 0 h₃ := W.frame _ _ _ hst fun b _ o e => old b o e
  have hCle : s₁.heap.objs.size ≤ H2.objs.size := by rw [hC]; exact Nat.le_succ_of_le hle
  have up : ∀ H : Heap, (∀ b o, b ≠ H2.objs.size → b ≠ I → h₃.get? b = some o → H.get? b = some o) → s₁.heap.StaysIn H := fun H hk b o e => by
    have e2 := hup b o e
    exact hk b o (below b (Heap.lt_size e2)) (fun hm => by rw [hm, hIn] at e; cases e) (old b o e2)
  have hDn : s₁.heap.get? h₂.objs.size = none := by
    cases e : s₁.heap.get? h₂.objs.size with
    | none => rfl
    | some o => exact absurd (Heap.lt_size (hup _ o e)) (Nat.lt_irrefl _)
  have loop : ∀ s₃ : Shared, s₃ = { s₁ with heap := h₃, toks := s₁.toks + ([] : List (Str × Value)).length } →
      codeAny (model PR w) A (.compLoop (Two elt iter1 iter2 x z px pz ifs scope pos) 0 (.ref I) (.ref h₂.objs.size) (compEnvC scope cl H2.objs.size env))
        (compPost (model PR w) A E none Q (.ref h₂.objs.size) H2.objs.size) s₃ := by
    rintro s₃ rfl
    have hx' : (compEnvC scope cl H2.objs.size env).kindOf x = some .local := lookup_relabel_local hx
    have hz' : (compEnvC scope cl H2.objs.size env).kindOf z = some .local := lookup_relabel_local hz
    have hp' : ((compEnvC scope cl H2.objs.size env).scope.kind == .class || ((compEnvC scope cl H2.objs.size env).scope.kind == .module && (compEnvC scope cl H2.objs.size env).locals != (compEnvC scope cl H2.objs.size env).globals)) = false := by simp [compEnvC, relabel, hkind]
    refine codeAny_loop rfl (fun k s' => ∃ h' tk m', ∃ i, s' = { s₁ with heap := h', toks := tk } ∧ St i h' ∧ h'.Ns H2.objs.size m' ∧ h'.PlainList h₂.objs.size #[] ∧ i ≤ n ∧ k = n + 1 - i ∧
        (∀ b o, b ≠ H2.objs.size → b ≠ I → h₃.get? b = some o → h'.get? b = some o)) (fun k s' hI => ?_) (n + 1)
      ⟨h₃, _, _, 0, rfl, hst₃, hns₃, hacc, Nat.zero_le _, rfl, fun _ _ _ _ e => e⟩
    obtain ⟨H, tk, m', i, rfl, hst', hn', hpl', hi, rfl, hk⟩ := hI
    show wpAny _ A ((compTurn (Two elt iter1 iter2 x z px pz ifs scope pos) 0 (.ref I) (.ref h₂.objs.size) (compEnvC scope cl H2.objs.size env)).onRaise (fun x => do noteFrame x (compEnvC scope cl H2.objs.size env); theTreesLotGoes x)) _ _ _
    refine wpAny_noted ?_
    rw [turn_out]
    refine wpAny_bind (wpAny_standAt (wpAny_bind ?_))
    by_cases hlt : i < n
    · refine W.item i _ _ _ hlt hst' fun v h₄ tk₄ hPv hst₄ hk₄ => ?_
      show wpAny _ _ (letOwnedTupleGo _ _ _ >>= _) _ _ _
      refine wpAny_bind (wpAny_of_eq (rfl : letOwnedTupleGo (.Name x px) (.ref I) v = pure ()) (wpAny_bind ?_))
      refine wpAny_assign_Name (wpAny_storeName_local hx' (hn'.at' fun o e => hk₄ _ o (by simpa using hCI) e) (fun h₅ hn₅ hs₅ => ?_) hp')
      have up₅ : ∀ b o, b ≠ H2.objs.size → b ≠ I → H.get? b = some o → h₅.get? b = some o := fun b o hbC hbf e => hs₅.extBut b o hbC (hk₄ b o (by simpa using hbf) e)
      have hst₅ : St (i + 1) h₅ := W.frame _ _ _ hst₄ fun b hb o e => hs₅.extBut b o (fun h => hCI (by rw [← List.mem_singleton.mp hb]; exact h.symm)) e
      have hpl₅ : h₅.PlainList h₂.objs.size #[] := hpl'.at fun o e => up₅ _ o hDC hDI e
      have hup₅ : s₁.heap.StaysIn h₅ := up h₅ fun b o hbC hbf e => up₅ b o hbC hbf (hk b o hbC hbf e)
      refine wpAny_bind (wpAny_mono (hit2 H2.objs.size i v _ _ _ hPv hCle hn₅ (if_pos rfl) hup₅) (fun xv2 s₆ h₆ => ?_) fun _ _ e => e)
      obtain ⟨hsrc2, h₆, tk₆, rfl, hk₆⟩ := h₆
      refine wpAny_bind (wpAny_standAt (wpAny_bind (wpAny_of_eq (hs2 _ _) (wpAny_bind (wpAny_holding ?_)))))
      refine hsrc2.go _ _ _ rfl fun I2 St2 h₇ W2 hst2 hI2 hup2 hIn2 hle2 => ?_
      have hn₆ := hn₅.keeps hk₆
      have hn₇ := hn₆.keeps hup2
      have hne : ∀ b o, h₆.get? b = some o → b ≠ I2 := fun b o e hb => by dsimp only at hIn2; rw [hb, hIn2] at e; cases e
      have hC2 : H2.objs.size ∉ [I2] := fun hm => by
        obtain ⟨o, _, _, e, _⟩ := hn₆
        exact hne _ _ e (List.mem_singleton.mp hm)
      refine wpAny_bind (wpAny_runOwn ?_)
      have inner : ∀ {R : Result → Shared → Prop}, (∀ h' tk m', h'.Ns H2.objs.size m' → (∀ b o, b ≠ H2.objs.size → b ∉ [I2] → h₇.get? b = some o → h'.get? b = some o) → R (.ok .next) { s₁ with heap := h', toks := tk }) →
          codeAny (model PR w) A (.compLoop (Two elt iter1 iter2 x z px pz ifs scope pos) 1 (.ref I2) (.ref h₂.objs.size) (compEnvC scope cl H2.objs.size env)) R { s₁ with heap := h₇, toks := tk₆ } := fun hR =>
        inner_none (cenv := compEnvC scope cl H2.objs.size env) W2 hxz hz' hp' hC2 hst2 hn₇ (if_pos rfl) (fun j v2 s₈ m₈ E' hPj hn₈ hm1 hm2 hk₈ =>
          ht H2.objs.size i j v v2 s₈ m₈ E' hPv hPj hCle hn₈ hm1 hm2 fun b o e => by
            have e5 := hup₅ b o e
            have e6 := hk₆ b o e5
            refine hk₈ b o ?_ (fun hm => hne b o e6 (List.mem_singleton.mp hm)) (hup2 b o e6)
            exact below b (Heap.lt_size (hup b o e))) hR
      refine start_in (inner fun h' tk m' hn8 hk8 => ?_) (W2.self 0 _ _ _ hst2 (inner fun h' tk m' hn8 hk8 => ?_))
      all_goals
       have hk9 : ∀ b o, b ≠ H2.objs.size → h₅.get? b = some o → h'.get? b = some o := fun b o hbC e => by
         have e6 := hk₆ b o e
         exact hk8 b o hbC (fun hm => hne b o e6 (List.mem_singleton.mp hm)) (hup2 b o e6)
       refine wpAny_pure ⟨rfl, n + 1 - (i + 1), by omega, h', tk, m', i + 1, rfl, W.frame _ _ _ hst₅ fun b hb o e => hk9 b o (fun hbC => hCI (by rw [← hbC]; exact List.mem_singleton.mp hb)) e, hn8, hpl₅.at fun o e => hk9 _ o hDC e, hlt, rfl, fun b o hbC hbI e => hk9 b o hbC (up₅ b o hbC hbI (hk b o hbC hbI e))⟩
    · have hin : i = n := by omega
      subst hin
      refine W.done _ _ _ hst' fun h₄ tk₄ hk₄ => ?_
      refine wpAny_pure ⟨m', hn'.at' fun o e => hk₄ _ o (by simpa using hCI) e, fun h₅ hs₅ => ?_⟩
      have hpl₅ : h₅.PlainList h₂.objs.size #[] := (hpl'.at fun o e => hk₄ _ o (by simpa using hDI) e).extBut hs₅.extBut hDC
      exact hQ _ h₅ tk₄ hDn hpl₅ (up h₅ fun b o hbC hbf e => hs₅.extBut b o hbC (hk₄ b o (by simpa using hbf) (hk b o hbC hbf e)))
  exact codeAny_compStart_list (loop _ rfl) (W.self 0 _ _ _ hst₃ (loop _ rfl))
end
end
section
set_option maxRecDepth 100000
open Builtin.Bytes (order)
/-! the order of bytes as a kind of key -/
theorem ord_neg {a b c : List UInt8} (h : order a c = .lt) : order a b = .lt ∨ order b c = .lt := by
  cases h1 : order a b with
  | lt => exact .inl rfl
  | eq => rw [ord_eq h1] at h; exact .inr h
  | gt => exact .inr (ord_trans ((ord_swap b a).mpr h1) h)
abbrev bsKind : PyProof.Rows.KeyKind where
  α := List UInt8
  blt a b := order a b == .lt
  irrefl a := by rw [ord_self]; rfl
  trans a b c h1 h2 := by simp only [beq_iff_eq] at *; exact ord_trans h1 h2
  negTrans a b c h := by simp only [beq_iff_eq] at *; exact ord_neg h
  total a b h1 h2 := by
    cases h : order a b with
    | lt => rw [h] at h1; cases h1
    | eq => exact ord_eq h
    | gt => rw [(ord_swap b a).mpr h] at h2; cases h2
  keyOf v := match v with | .bytes b _ => some b.toList | _ => none
  dflt := []
section
variable {w : World} {A : Around} {E : Value → Shared → Prop} {s : Shared} {prog : Program}
theorem call_bytes_lt {a b : List UInt8} {t u : Tok} {Q : Value → Shared → Prop} (h : Q (.bool (order a b == .lt)) s) :
    wpAny (model prog w) A (call (.builtin "bytes.__lt__") [.bytes a.toArray t, .bytes b.toArray u]) Q E s := by
  refine wpAny_call_entry slot_blt (typeIs_bytes s _ t) entry_blt ?_ (args_blt _ _)
  show wpAny _ _ (isInstance (.bytes b.toArray u) (.type "bytes") >>= fun r => _) _ _ s
  refine wpAny_bind (wpAny_isInstance (typeIs_bytes s b.toArray u) F.sub_bytes_bytes ?_)
  exact wpAny_pure ⟨_, rfl, h⟩
theorem oneLt_bytes {a b : List UInt8} {t u : Tok} {Q : Bool → Shared → Prop} (h : Q (order a b == .lt) s) : wpAny (model prog w) A (oneLt' true (.bytes a.toArray t) (.bytes b.toArray u)) Q E s := by
  rw [oneLt'_eq]
  simp only [if_true]
  refine wpAny_bind (wpAny_cRoomFor_byValue rfl ?_)
  refine wpAny_bind (wpAny_callSpecialIfBound?_slot (typeIs_bytes s _ t) slot_blt (call_bytes_lt ?_))
  exact wpAny_truthy_bool h
end
theorem bsKind_oneLt : bsKind.OneLt := by
  intro prog w A E s x y a b Q ha hb h
  cases x <;> simp only [bsKind, reduceCtorEq, Option.some.injEq] at ha
  cases y <;> simp only [bsKind, reduceCtorEq, Option.some.injEq] at hb
  cases ha; cases hb
  rename_i x t y u
  have := oneLt_bytes (w := w) (A := A) (E := E) (s := s) (prog := prog) (a := x.toList) (b := y.toList) (t := t) (u := u) (Q := Q) h
  simpa using this
def bsOf : Value → List UInt8
  | .bytes b _ => b.toList
  | _ => []
theorem bs_all : ∀ {vs : List Value} {bs : List (List UInt8)}, BsAre vs bs → ∀ v, v ∈ vs → ∃ x t, v = .bytes (List.toArray x) t
  | _, _, .nil, v, hv => nomatch hv
  | _, _, .cons (b := b) h r, v, hv => by
    obtain ⟨t, rfl⟩ := h
    rcases List.mem_cons.mp hv with rfl | hv
    · exact ⟨b, t, rfl⟩
    · exact bs_all r v hv
theorem bs_of : ∀ {vs : List Value} {bs : List (List UInt8)}, BsAre vs bs → vs.map bsOf = bs
  | _, _, .nil => rfl
  | _, _, .cons h r => by obtain ⟨t, rfl⟩ := h; rw [List.map_cons, bs_of r]; rfl
theorem bs_map : ∀ (vs : List Value), (∀ v, v ∈ vs → ∃ x t, v = .bytes (List.toArray x) t) → BsAre vs (vs.map bsOf)
  | [], _ => .nil
  | v :: vs, h => by
    obtain ⟨x, t, rfl⟩ := h v (List.mem_cons_self ..)
    exact .cons ⟨t, rfl⟩ (bs_map vs fun u hu => h u (List.mem_cons_of_mem _ hu))
theorem bs_keysOf {vs : List Value} {bs : List (List UInt8)} (hS : BsAre vs bs) : KeysOf bsKind (pairsOf vs) := by
  intro p hp
  rw [pairsOf_toList] at hp
  obtain ⟨x, t, e⟩ := bs_all hS _ (mem_zip_self hp).2
  exact ⟨x, by rw [e]⟩
theorem KK_bs {xs : Array Keyed} {i : Nat} (hi : i < xs.size) {x : List UInt8} {t : Tok} {q : Value} (hx : xs[i] = (.bytes x.toArray t, q)) : KK bsKind xs i = x := by
  unfold KK; rw [getElem?_pos xs i hi, hx]; rfl
theorem first_bs {vs : List Value} {bs : List (List UInt8)} (h : BsAre vs bs) : vs.mapM firstOfTuple' = pure (vs.map fun _ => none) := by
  induction h with
  | nil => simp
  | cons h r ih =>
    obtain ⟨t, rfl⟩ := h
    rw [List.mapM_cons, ih]
    show (pure none >>= fun b => _) = _
    simp
theorem typeOf_bs {vs : List Value} {bs : List (List UInt8)} (h : BsAre vs bs) : vs.mapM typeOf = pure (vs.map fun _ => Value.type "bytes") := by
  induction h with
  | nil => simp
  | cons h r ih =>
    obtain ⟨t, rfl⟩ := h
    rw [List.mapM_cons, ih]
    show (pure (Value.type "bytes") >>= fun b => pure _ >>= fun bs => pure (b :: bs)) = _
    simp
theorem keyKind_bs {v₁ v₂ : Value} {vs : List Value} {bs : List (List UInt8)} (hS : BsAre (v₁ :: v₂ :: vs) bs) : keyKind' (v₁ :: v₂ :: vs).toArray = pure oneType' := by
  rw [keyKind'_eq, List.mapM_toArray, first_bs hS]
  simp only [map_pure, pure_bind]
  rw [if_neg (by simp), if_neg (by simp)]
  rw [oneTypeOnly'_eq, List.mapM_toArray, typeOf_bs hS]
  simp only [map_pure, pure_bind]
  have hall : ((List.map (fun _ => Value.type "bytes") (v₁ :: v₂ :: vs)).toArray.all fun x => x == Value.type "bytes") = true := by
    simp only [List.all_toArray, List.all_map, List.all_eq_true]
    intro _ _
    rfl
  have h0 : (List.map (fun _ => Value.type "bytes") (v₁ :: v₂ :: vs)).toArray[0]? = some (Value.type "bytes") := by simp
  rw [h0]
  simp only [hall, if_true, pure_bind, Option.isSome_some]
theorem sorted_out_bs {vs : List Value} {bs : List (List UInt8)} (hS : BsAre vs bs) (hnd : bs.Nodup) {xs : Array Keyed} (hp : xs.Perm (pairsOf vs)) (hs : SortedToK bsKind xs (pairsOf vs).size) :
    ∃ bs', BsAre (xs.map (·.2)).toList bs' ∧ bs'.Perm bs ∧ Rising bs' := by
  have hl : xs.toList.Perm (vs.zip vs) := by rw [← pairsOf_toList]; exact Array.perm_iff_toList_perm.mp hp
  have hmem : ∀ p, p ∈ xs.toList → p.1 = p.2 ∧ p.1 ∈ vs := fun p hp' => mem_zip_self (hl.mem_iff.mp hp')
  have hperm : (xs.toList.map (fun p => bsOf p.1)).Perm bs := by
    have h1 := hl.map (fun p => bsOf p.1)
    have e2 : (vs.zip vs).map (fun p => bsOf p.1) = bs := by
      have : (vs.zip vs).map (fun p => bsOf p.1) = ((vs.zip vs).map Prod.fst).map bsOf := by rw [List.map_map]; rfl
      rw [this, List.map_fst_zip (Nat.le_refl _), bs_of hS]
    rwa [e2] at h1
  refine ⟨xs.toList.map (fun p => bsOf p.1), ?_, hperm, ?_⟩
  · have e : (xs.map (·.2)).toList = xs.toList.map (·.1) := by
      rw [Array.toList_map]; exact List.map_congr_left fun p hp' => (hmem p hp').1.symm
    rw [e]
    have h1 := bs_map (xs.toList.map (·.1)) (by
      intro v hv
      obtain ⟨p, hp', rfl⟩ := List.mem_map.mp hv
      exact bs_all hS _ (hmem p hp').2)
    rwa [List.map_map] at h1
  · have hnd' : (xs.toList.map (fun p => bsOf p.1)).Nodup := hperm.nodup_iff.mpr hnd
    have hle : (xs.toList.map (fun p => bsOf p.1)).Pairwise (fun a b => (order b a == .lt) = false) := by
      rw [List.pairwise_iff_getElem]
      intro i j hi hj hij
      have hi' : i < xs.size := by simpa using hi
      have hj' : j < xs.size := by simpa using hj
      have h1 := hs i j (Nat.le_of_lt hij) (by rw [← hp.size_eq]; exact hj')
      obtain ⟨x, t, ex⟩ := bs_all hS _ (hmem xs[i] (by simp)).2
      obtain ⟨y, u, ey⟩ := bs_all hS _ (hmem xs[j] (by simp)).2
      rw [KK_bs hi' (x := x) (t := t) (q := xs[i].2) (Prod.ext ex rfl), KK_bs hj' (x := y) (t := u) (q := xs[j].2) (Prod.ext ey rfl)] at h1
      change (order y x == .lt) = false at h1
      simp only [List.getElem_map, Array.getElem_toList]
      rw [show bsOf xs[i].1 = x by rw [ex]; rfl, show bsOf xs[j].1 = y by rw [ey]; rfl]
      exact h1
    exact (hle.and hnd').imp fun {a b} h => by
      cases e : order a b with
      | lt => rfl
      | eq => exact absurd (ord_eq e) h.2
      | gt => have := (ord_swap b a).mpr e; rw [this] at h; exact absurd h.1 (by decide)
section
variable {w : World} {A : Around} {E : Value → Shared → Prop} {s : Shared}
theorem sorted_N_bs {h₀ : Heap} {L : Addr} {m : Str → Option Value} {news : List (Addr × Obj)} {l : Addr} {vs : List Value} {bs : List (List UInt8)} {Q : Value → Shared → Prop}
    (F : Fr h₀ L s.heap m) (N : News h₀ L s.heap news) (hl : s.heap.IsList l vs.toArray) (hS : BsAre vs bs) (hnd : bs.Nodup) (h64 : vs.length < 64)
    (h : ∀ (D : Addr) (h' : Heap) (vs' : List Value) (bs' : List (List UInt8)) (e : Nat), Fr h₀ L h' m → News h₀ L h' ((D, W.listOf vs'.toArray e) :: news) → (∀ p ∈ news, p.1 < D) →
      BsAre vs' bs' → bs'.Perm bs → Rising bs' → Q (.ref D) { s with heap := h' }) :
    wpAny (model PR w) A (call (.builtin "sorted") [.ref l]) Q E s := by
  refine sortedK bsKind_oneLt hl (bs_keysOf hS) (fun v₁ v₂ rest e => keyKind_bs (by rw [← e]; exact hS)) h64 fun st' hp hs => ?_
  obtain ⟨bs', h1, h2, h3⟩ := sorted_out_bs hS hnd hp hs
  obtain ⟨e, he⟩ := sortedAll_at s.heap vs ((arrOf st').map (·.2))
  exact h _ _ ((arrOf st').map (·.2)).toList bs' e (F.kept fun _ _ => sortedAll_old) (N.kept_cons F (fun _ _ => sortedAll_old) (Nat.le_succ _) he) (fun p hp => Nat.lt_succ_of_lt (Heap.lt_size (N p hp).1)) h1 h2 h3
/-! lists of bytes that say the same -/
theorem eqAt_bs {A : Around} (s : Shared) (b : List UInt8) (t u : Tok) : SeqAt.EqAt A s (.bytes b.toArray t) (.bytes b.toArray u) true := fun prog w E Q hq => eqBool_bytes (by simpa using hq)
theorem eqAt_item {A : Around} {xs ys : List Value} {bs : List (List UInt8)} (hx : BsAre xs bs) (hy : BsAre ys bs) (j : Nat) (h1 : j < xs.toArray.size) (h2 : j < ys.toArray.size) : SeqAt.EqAt A s xs.toArray[j] ys.toArray[j] true := by
  have h3 : j < bs.length := by rw [← bs_len hx]; simpa using h1
  obtain ⟨t, e1⟩ := bs_at hx h3
  obtain ⟨u, e2⟩ := bs_at hy h3
  have e1' : xs.toArray[j] = .bytes (bs.getD j []).toArray t := by
    have := (List.getElem?_eq_some_iff.mp e1).2; simpa using this
  have e2' : ys.toArray[j] = .bytes (bs.getD j []).toArray u := by
    have := (List.getElem?_eq_some_iff.mp e2).2; simpa using this
  rw [e1', e2']
  exact eqAt_bs s _ t u
/-- a list of bytes at an address -/
def BL (h : Heap) (l : Addr) (bs : List (List UInt8)) : Prop := ∃ vs, h.IsList l (List.toArray vs) ∧ BsAre vs bs
theorem bl_eqAt {A : Around} {a b : Addr} {bs : List (List UInt8)} (ha : BL s.heap a bs) (hb : BL s.heap b bs) (hu : A.units < cLine) : SeqAt.EqAt A s (.ref a) (.ref b) true := by
  obtain ⟨xs, hx, hxb⟩ := ha
  obtain ⟨ys, hy, hyb⟩ := hb
  by_cases hab : a = b
  · rw [hab]; exact SeqAt.EqAt.same _
  · refine SeqAt.EqAt.of_refs hab ?_
    have hsz : xs.toArray.size = ys.toArray.size := by rw [List.size_toArray, List.size_toArray, bs_len hxb, bs_len hyb]
    have := SeqAt.RcAt.lists (e := fun _ => true) hx hy hsz hu fun j h1 h2 => eqAt_item hxb hyb j h1 h2
    rwa [show (List.range xs.toArray.size).all (fun _ => true) = true from List.all_eq_true.mpr fun _ _ => rfl] at this
/-- two lists of bytes, in a list -/
def BLL (h : Heap) (l : Addr) (x0 x1 : List (List UInt8)) : Prop := ∃ a0 a1, h.IsList l #[.ref a0, .ref a1] ∧ BL h a0 x0 ∧ BL h a1 x1
def BLT (h : Heap) (l : Addr) (x0 x1 : List (List UInt8)) : Prop := ∃ a0 a1, IsTup h l #[.ref a0, .ref a1] ∧ BL h a0 x0 ∧ BL h a1 x1
theorem two_eqAt {A : Around} {a0 a1 b0 b1 : Addr} {x0 x1 : List (List UInt8)} (h0 : BL s.heap a0 x0) (h1 : BL s.heap a1 x1) (k0 : BL s.heap b0 x0) (k1 : BL s.heap b1 x1) (hu : A.units < cLine) :
    ∀ j (j1 : j < #[Value.ref a0, .ref a1].size) (j2 : j < #[Value.ref b0, .ref b1].size), SeqAt.EqAt A s #[Value.ref a0, .ref a1][j] #[Value.ref b0, .ref b1][j] true := fun j j1 _ => by
  match j, j1 with
  | 0, _ => exact bl_eqAt h0 k0 hu
  | 1, _ => exact bl_eqAt h1 k1 hu
theorem ne_bll {a b : Addr} {x0 x1 : List (List UInt8)} {Q : Value → Shared → Prop} (ha : BLL s.heap a x0 x1) (hb : BLL s.heap b x0 x1) (hu : A.units + 1 < cLine) (h : Q (.bool false) s) : wpAny (model PR w) A (compareOp .NotEq (.ref a) (.ref b)) Q E s := by
  obtain ⟨a0, a1, la, h0, h1⟩ := ha
  obtain ⟨b0, b1, lb, k0, k1⟩ := hb
  have := SeqAt.RcNeAt.lists (e := fun _ => true) la lb rfl (Nat.lt_of_succ_lt hu) (two_eqAt h0 h1 k0 k1 hu)
  exact this PR w E Q h
theorem ne_blt {a b : Addr} {x0 x1 : List (List UInt8)} {Q : Value → Shared → Prop} (ha : BLT s.heap a x0 x1) (hb : BLT s.heap b x0 x1) (hu : A.units + 1 < cLine) (h : Q (.bool false) s) : wpAny (model PR w) A (compareOp .NotEq (.ref a) (.ref b)) Q E s := by
  obtain ⟨a0, a1, la, h0, h1⟩ := ha
  obtain ⟨b0, b1, lb, k0, k1⟩ := hb
  have := SeqAt.RcNeAt.tuples (e := fun _ => true) la lb (Nat.lt_of_succ_lt hu) (two_eqAt h0 h1 k0 k1 hu)
  exact this PR w E Q h
theorem eq_blt {a b : Addr} {x0 x1 : List (List UInt8)} {Q : Value → Shared → Prop} (ha : BLT s.heap a x0 x1) (hb : BLT s.heap b x0 x1) (hu : A.units + 1 < cLine) (h : Q (.bool true) s) : wpAny (model PR w) A (compareOp .Eq (.ref a) (.ref b)) Q E s := by
  obtain ⟨a0, a1, la, h0, h1⟩ := ha
  obtain ⟨b0, b1, lb, k0, k1⟩ := hb
  have := SeqAt.RcAt.tuples (e := fun _ => true) la lb (Nat.lt_of_succ_lt hu) (two_eqAt h0 h1 k0 k1 hu)
  exact this PR w E Q h
theorem bl_up {G h : Heap} {l : Addr} {bs : List (List UInt8)} (hl : BL G l bs) (k : G.StaysIn h) : BL h l bs := by
  obtain ⟨vs, h1, h2⟩ := hl
  exact ⟨vs, isList_up h1 k, h2⟩
theorem bll_up {G h : Heap} {l : Addr} {x0 x1 : List (List UInt8)} (hl : BLL G l x0 x1) (k : G.StaysIn h) : BLL h l x0 x1 := by
  obtain ⟨a0, a1, h0, h1, h2⟩ := hl
  exact ⟨a0, a1, isList_up h0 k, bl_up h1 k, bl_up h2 k⟩
end
end
section
set_option maxRecDepth 100000
theorem sizeLine_100 {n : Nat} (h : n ≤ 100) : n ≤ sizeLine := by simp [sizeLine_eq]; omega
section
variable {w : World} {A : Around} {E : Value → Shared → Prop} {s : Shared} {env : Env} {elt iter : PySem.Expr} {x y : Str} {px py pos : Pos} {ifs : List PySem.Expr} {scope : Scope} {cl : List (Str × Addr)}
/-- [elt for x in iter], over a list of bytes, told as bytes, with a test -/
theorem lc_bs {Q : Value → Shared → Prop} (p : List UInt8 → Bool) (f : List UInt8 → List UInt8) {rs : List (List UInt8)}
    (hh : A.handled = none) (hclos : closureFor scope env = pure cl) (hcell : ∀ y ∈ scope.names, y.2 ≠ .cell) (hkind : scope.kind = .function)
    (hnames : ∀ y ∈ scope.names, y.2 = .local → scope.names.lookup y.1 = some .local) (hx : scope.names.lookup x = some .local)
    (h : wpAny (model PR w) A (eval iter env) (fun xv s₁ => ∃ l, xv = .ref l ∧ BL s₁.heap l rs ∧ rs.length ≤ 100 ∧
      (∀ C r t s₃ m₃ E', r ∈ rs → s₃.heap.Ns C m₃ → m₃ x = some (.bytes (List.toArray r) t) → s₁.heap.StaysIn s₃.heap →
        wpAny (model PR w) A (lcTests ifs (compEnvC scope cl C env)) (fun ok s₄ => ok = p r ∧ Keeps s₃ s₄) E' s₃) ∧
      (∀ C r t s₃ m₃ E', r ∈ rs → p r = true → s₃.heap.Ns C m₃ → m₃ x = some (.bytes (List.toArray r) t) → s₁.heap.StaysIn s₃.heap →
        wpAny (model PR w) A (eval elt (compEnvC scope cl C env)) (fun v s₄ => (∃ t, v = .bytes (List.toArray (f r)) t) ∧ Keeps s₃ s₄) E' s₃) ∧
      (∀ D h' tk vs, s₁.heap.get? D = none → h'.PlainList D (List.toArray vs) → BsAre vs ((rs.filter p).map f) → s₁.heap.StaysIn h' → Q (.ref D) { s₁ with heap := h', toks := tk })) E s)
    (hs : ∀ x, foldedSetIterable iter env x = pure x) :
    wpAny (model PR w) A (eval (.ListComp elt [⟨.Name x px, iter, ifs, 0⟩] scope pos) env) Q E s := by
  refine lc_imm (n := rs.length) (P := fun i v => ∃ t, i < rs.length ∧ v = .bytes (List.toArray (rs.getD i [])) t) (fun v => p (bsOf v)) (fun v z => ∃ t, z = .bytes (List.toArray (f (bsOf v))) t) hclos hcell hkind hnames hx (wpAny_mono h (fun xv s₁ h₁ => ?_) fun _ _ e => e) hs
  obtain ⟨l, rfl, ⟨vs, hl, hb⟩, hlen, ht, he, hQ⟩ := h₁
  have hmem : ∀ {i}, i < rs.length → rs.getD i [] ∈ rs := fun {i} hi => by rw [List.getD_eq_getElem?_getD, List.getElem?_eq_getElem hi]; exact List.getElem_mem hi
  refine ⟨?_, sizeLine_100 hlen, ?_, ?_, ?_⟩
  · have S := src_list (w := w) (A := A) hh hl
    refine ⟨fun s E Q hs hQ => S.go s E Q hs fun I fp wr St h₂ W => ?_⟩
    rw [bs_len hb] at W
    refine hQ I fp wr St h₂ ⟨W.sub, W.frame, fun i s Q E hi hst hQ => W.item i s Q E hi hst fun v h' tk hP => hQ v h' tk ?_, W.done, W.self⟩
    obtain ⟨t, e⟩ := bs_at hb hi
    rw [e] at hP
    exact ⟨t, hi, (Option.some.inj hP).symm⟩
  · rintro C i v s₃ m₃ E' ⟨t, hi, rfl⟩ hC hn hm hst
    exact ht C _ t s₃ m₃ E' (hmem hi) hn hm hst
  · rintro C i v s₃ m₃ E' ⟨t, hi, rfl⟩ hp hC hn hm hst
    exact he C _ t s₃ m₃ E' (hmem hi) hp hn hm hst
  · intro D h' tk ys us hD hpl hul hP hF hst
    have hub : BsAre us rs := by
      refine paired_of_get hul fun j a b ha hb => ?_
      obtain ⟨t, hj, e⟩ := hP j a ha
      refine ⟨t, ?_⟩
      rw [e, List.getD_eq_getElem?_getD, hb]; rfl
    have e1 : us.map bsOf = rs := bs_of hub
    refine hQ D h' tk ys.toList hD (by simpa using hpl) ?_ hst
    have key : ∀ {us : List Value} {rs : List (List UInt8)}, us.map bsOf = rs → (rs.filter p).map f = (us.filter fun v => p (bsOf v)).map fun v => f (bsOf v) := by
      rintro us rs rfl
      rw [List.filter_map, List.map_map]; rfl
    rw [key e1]
    have : ∀ {l1 l2 : List Value}, Paired (fun v z => ∃ t, z = Value.bytes (List.toArray (f (bsOf v))) t) l1 l2 → BsAre l2 (l1.map fun v => f (bsOf v)) := fun {l1 l2} hp => by
      induction hp with
      | nil => exact .nil
      | cons h _ ih => exact .cons h ih
    exact this hF
theorem tests_nil {cenv : Env} {Q : Bool → Shared → Prop} (h : Q true s) : wpAny (model PR w) A (lcTests [] cenv) Q E s := wpAny_pure h
theorem keeps_self : Keeps s s := ⟨_, _, rfl, fun _ _ e => e⟩
end
section
variable {w : World} {A : Around} {E : Value → Shared → Prop} {s : Shared} {env : Env} {elt iter : PySem.Expr} {x y yo : Str} {px py pyo pos pos2 spos : Pos} {sc1 sc2 : Scope} {cl1 cl2 : List (Str × Addr)}
abbrev Nest (elt iter : PySem.Expr) (x y : Str) (px py py2 : Pos) (sc1 sc2 : Scope) (pos pos2 : Pos) : PySem.Expr :=
  .ListComp (.ListComp elt [⟨.Name y py, .Name x py2, [], 0⟩] sc2 pos2) [⟨.Name x px, iter, [], 0⟩] sc1 pos
/-- what the inner comprehension of a nest needs -/
structure InOk (w : World) (A : Around) (env : Env) (elt : PySem.Expr) (x y : Str) (sc1 sc2 : Scope) (cl1 cl2 : List (Str × Addr)) : Prop where
  hh : A.handled = none
  clos1 : closureFor sc1 env = pure cl1
  cell1 : ∀ y ∈ sc1.names, y.2 ≠ .cell
  kind1 : sc1.kind = .function
  names1 : ∀ y ∈ sc1.names, y.2 = .local → sc1.names.lookup y.1 = some .local
  x1 : sc1.names.lookup x = some .local
  clos2 : ∀ C, closureFor sc2 (compEnvC sc1 cl1 C env) = pure cl2
  cell2 : ∀ y ∈ sc2.names, y.2 ≠ .cell
  kind2 : sc2.kind = .function
  names2 : ∀ y ∈ sc2.names, y.2 = .local → sc2.names.lookup y.1 = some .local
  y2 : sc2.names.lookup y = some .local
  dbg : (x == ("__debug__" : Str)) = false
def EltOk (w : World) (A : Around) (env : Env) (elt : PySem.Expr) (y : Str) (sc1 sc2 : Scope) (cl1 cl2 : List (Str × Addr)) (h : Heap) (f : List UInt8 → List UInt8) (rs : List (List UInt8)) : Prop :=
  ∀ C1 C2 r t s₃ m₃ E', r ∈ rs → s₃.heap.Ns C2 m₃ → m₃ y = some (.bytes (List.toArray r) t) → h.StaysIn s₃.heap →
        wpAny (model PR w) A (eval elt (compEnvC sc2 cl2 C2 (compEnvC sc1 cl1 C1 env))) (fun v s₄ => (∃ t, v = .bytes (List.toArray (f r)) t) ∧ Keeps s₃ s₄) E' s₃
theorem nest_inner {py2 : Pos} {f : List UInt8 → List UInt8} {rs all : List (List UInt8)} {h : Heap} (ok : InOk w A env elt x y sc1 sc2 cl1 cl2) (he : EltOk w A env elt y sc1 sc2 cl1 cl2 h f all) (hsub : ∀ r ∈ rs, r ∈ all) {C l : Addr} {m : Str → Option Value}
    (hn : s.heap.Ns C m) (hm : m x = some (.ref l)) (hst : h.StaysIn s.heap) (hl : BL h l rs) (hlen : rs.length ≤ 100) :
    wpAny (model PR w) A (eval (.ListComp elt [⟨.Name y py, .Name x py2, [], 0⟩] sc2 pos2) (compEnvC sc1 cl1 C env)) (fun v s₄ => (∃ T its, v = .ref T ∧ s.heap.get? T = none ∧ s₄.heap.IsList T its ∧ BsAre its.toList (rs.map f)) ∧ Keeps s s₄) E s := by
  refine lc_bs (fun _ => true) f (rs := rs) ok.hh (ok.clos2 C) ok.cell2 ok.kind2 ok.names2 ok.y2 ?_ (fun _ => by with_unfolding_all rfl)
  refine nameKL hn hm ?_ (by show (relabel _ _).kind = _; exact ok.kind1) (lookup_relabel_local ok.x1) ok.dbg
  refine ⟨l, rfl, bl_up hl hst, hlen, ?_, ?_, ?_⟩
  · intro C2 r t s₃ m₃ E' hr hn hm hst2
    exact tests_nil ⟨rfl, keeps_self⟩
  · intro C2 r t s₃ m₃ E' hr _ hn hm hst2
    exact he C C2 r t s₃ m₃ E' (hsub r hr) hn hm fun b o e => hst2 b o (hst b o e)
  · intro D h' tk vs hD hpl hb hst2
    refine ⟨⟨D, _, rfl, hD, hpl.isList, ?_⟩, h', tk, rfl, hst2⟩
    have : rs.filter (fun _ => true) = rs := by simp
    rwa [this] at hb
theorem bs_fun : ∀ {vs : List Value} {r r' : List (List UInt8)}, BsAre vs r → BsAre vs r' → r = r' := fun h h' => by rw [← bs_of h, bs_of h']
theorem bl_fun {h : Heap} {a : Addr} {r r' : List (List UInt8)} (h1 : BL h a r) (h2 : BL h a r') : r = r' := by
  obtain ⟨vs, ⟨o, e, _, n, d⟩, hb⟩ := h1
  obtain ⟨vs', ⟨o', e', _, n', d'⟩, hb'⟩ := h2
  rw [e] at e'; cases e'
  rw [d] at d'
  have : vs = vs' := by simpa using (Data.seq.inj d').1
  subst this
  exact bs_fun hb hb'
/-- what the outer comprehension lays for a shelf -/
def ShG (a0 a1 : Addr) (x0 x1 : List (List UInt8)) (v : Value) (its : Array Value) : Prop := (v = .ref a0 → BsAre its.toList x0) ∧ (v = .ref a1 → BsAre its.toList x1)
theorem nest_two {a0 a1 : Addr} {x0 x1 : List (List UInt8)} {h₁ h' : Heap} {D : Addr} {ys : Array Value} {vs : List Value} (hpl : h'.PlainList D ys) (hlen : vs.length = 2) (hP : ∀ (j : Nat) (v : Value), vs[j]? = some v → [Value.ref a0, .ref a1][j]? = some v)
    (hF : Paired (LstIs h₁ (ShG a0 a1 x0 x1) h') (vs.filter fun _ => true) ys.toList) :
    ∃ T0 T1, h'.PlainList D #[.ref T0, .ref T1] ∧ h₁.get? T0 = none ∧ h₁.get? T1 = none ∧ BL h' T0 x0 ∧ BL h' T1 x1 := by
  have hall : vs.filter (fun _ => true) = vs := by simp
  rw [hall] at hF
  match vs, hlen with
  | [v0, v1], _ =>
    have e0 := hP 0 v0 rfl
    have e1 := hP 1 v1 rfl
    cases e0; cases e1
    obtain ⟨ys⟩ := ys
    cases hF with
    | cons h0 hr =>
      cases hr with
      | cons h1 hr =>
        cases hr
        obtain ⟨T0, i0, rfl, n0, l0, g0⟩ := h0
        obtain ⟨T1, i1, rfl, n1, l1, g1⟩ := h1
        exact ⟨T0, T1, hpl, n0, n1, ⟨i0.toList, by simpa using l0, g0.1 rfl⟩, ⟨i1.toList, by simpa using l1, g1.2 rfl⟩⟩
theorem nest_elt {py2 : Pos} {f : List UInt8 → List UInt8} {r0 r1 : List (List UInt8)} {h : Heap} {a0 a1 : Addr} (ok : InOk w A env elt x y sc1 sc2 cl1 cl2) (he : EltOk w A env elt y sc1 sc2 cl1 cl2 h f (r0 ++ r1)) (h0 : BL h a0 r0) (h1 : BL h a1 r1) (n0 : r0.length ≤ 100) (n1 : r1.length ≤ 100)
    {C : Addr} {i : Nat} {v : Value} {m : Str → Option Value} (hP : [Value.ref a0, .ref a1][i]? = some v) (hn : s.heap.Ns C m) (hm : m x = some v) (hst : h.StaysIn s.heap) :
    wpAny (model PR w) A (eval (.ListComp elt [⟨.Name y py, .Name x py2, [], 0⟩] sc2 pos2) (compEnvC sc1 cl1 C env)) (fun z s₄ => (∃ T its, z = .ref T ∧ s.heap.get? T = none ∧ s₄.heap.IsList T its ∧ ShG a0 a1 (r0.map f) (r1.map f) v its) ∧ Keeps s s₄) E s := by
  match i, hP with
  | 0, hP =>
    cases hP
    refine wpAny_mono (nest_inner ok he (fun r hr => List.mem_append_left _ hr) hn hm hst h0 n0) (fun z s₄ hz => ?_) fun _ _ e => e
    obtain ⟨⟨T, its, e, hT, hl, hb⟩, hk⟩ := hz
    exact ⟨⟨T, its, e, hT, hl, fun _ => hb, fun e => by injection e with e; subst e; rwa [bl_fun h1 h0]⟩, hk⟩
  | 1, hP =>
    cases hP
    refine wpAny_mono (nest_inner ok he (fun r hr => List.mem_append_right _ hr) hn hm hst h1 n1) (fun z s₄ hz => ?_) fun _ _ e => e
    obtain ⟨⟨T, its, e, hT, hl, hb⟩, hk⟩ := hz
    exact ⟨⟨T, its, e, hT, hl, fun e => by injection e with e; subst e; rwa [bl_fun h0 h1], fun _ => hb⟩, hk⟩
/-- what a nest of comprehensions over two shelves needs of the state after its shelves were told -/
def NestIn (w : World) (A : Around) (env : Env) (elt : PySem.Expr) (y : Str) (sc1 sc2 : Scope) (cl1 cl2 : List (Str × Addr)) (f : List UInt8 → List UInt8) (d a0 a1 : Addr) (r0 r1 : List (List UInt8)) (h : Heap) : Prop :=
  h.IsList d #[.ref a0, .ref a1] ∧ BL h a0 r0 ∧ BL h a1 r1 ∧ r0.length ≤ 100 ∧ r1.length ≤ 100 ∧ EltOk w A env elt y sc1 sc2 cl1 cl2 h f (r0 ++ r1)
structure NestOut (f : List UInt8 → List UInt8) (r0 r1 : List (List UInt8)) (h h' : Heap) (D T0 T1 : Addr) : Prop where
  nD : h.get? D = none
  n0 : h.get? T0 = none
  n1 : h.get? T1 = none
  pl : h'.PlainList D #[.ref T0, .ref T1]
  b0 : BL h' T0 (r0.map f)
  b1 : BL h' T1 (r1.map f)
theorem src_two {h : Heap} {d a0 a1 : Addr} (hh : A.handled = none) (hl : h.IsList d #[.ref a0, .ref a1]) : Src w A h (.ref d) 2 (fun i v => [Value.ref a0, .ref a1][i]? = some v) :=
  src_list (vs := [.ref a0, .ref a1]) hh hl
theorem two_size : 2 ≤ sizeLine := by simp [sizeLine_eq]
theorem nest {py2 : Pos} {f : List UInt8 → List UInt8} {d a0 a1 : Addr} {r0 r1 : List (List UInt8)} {Q : Value → Shared → Prop} (ok : InOk w A env elt x y sc1 sc2 cl1 cl2)
    (h : wpAny (model PR w) A (eval iter env) (fun xv s₁ => xv = .ref d ∧ NestIn w A env elt y sc1 sc2 cl1 cl2 f d a0 a1 r0 r1 s₁.heap ∧
      ∀ D T0 T1 h' tk, NestOut f r0 r1 s₁.heap h' D T0 T1 → s₁.heap.StaysIn h' → Q (.ref D) { s₁ with heap := h', toks := tk }) E s)
    (hs : ∀ x, foldedSetIterable iter env x = pure x) :
    wpAny (model PR w) A (eval (Nest elt iter x y px py py2 sc1 sc2 pos pos2) env) Q E s := by
  refine lc_obj (n := 2) (P := fun i v => [Value.ref a0, .ref a1][i]? = some v) (fun _ => true) (ShG a0 a1 (r0.map f) (r1.map f)) ok.clos1 ok.cell1 ok.kind1 ok.names1 ok.x1 (wpAny_mono h (fun xv s₁ h₁ => ?_) fun _ _ e => e) hs
  obtain ⟨rfl, ⟨hl, h0, h1, n0, n1, he⟩, hQ⟩ := h₁
  refine ⟨src_two ok.hh hl, two_size, ?_, ?_, ?_⟩
  · intro C i v s₃ m₃ E' hP hC hn hm hst
    exact tests_nil ⟨rfl, keeps_self⟩
  · intro C i v s₃ m₃ E' hP _ hC hn hm hst
    exact nest_elt ok he h0 h1 n0 n1 hP hn hm hst
  · intro D h' tk ys vs hD hpl hlen hP hF hst
    obtain ⟨T0, T1, hpl', k0, k1, b0, b1⟩ := nest_two hpl hlen hP hF
    exact hQ D T0 T1 h' tk ⟨hD, k0, k1, hpl', b0, b1⟩ hst
theorem nestA {py2 : Pos} {f : List UInt8 → List UInt8} {d a0 a1 : Addr} {r0 r1 : List (List UInt8)} {Q : Flow → Shared → Prop} (ok : InOk w A env elt x y sc1 sc2 cl1 cl2)
    (hsw : swapsWith (Nest elt iter x y px py py2 sc1 sc2 pos pos2) (some (.Name yo pyo)) spos.line env = pure true)
    (hy : env.kindOf yo = some .local) (hp : (env.scope.kind == .class || (env.scope.kind == .module && env.locals != env.globals)) = false)
    (h : wpAny (model PR w) A (eval iter env) (fun xv s₁ => ∃ m, s₁.heap.Ns env.locals m ∧ xv = .ref d ∧ NestIn w A env elt y sc1 sc2 cl1 cl2 f d a0 a1 r0 r1 s₁.heap ∧
      ∀ D T0 T1 h' tk, NestOut f r0 r1 s₁.heap h' D T0 T1 → h'.Ns env.locals (fun z => if z = yo then some (.ref D) else m z) → (∀ b o, b ≠ env.locals → s₁.heap.get? b = some o → h'.get? b = some o) → Q .next { s₁ with heap := h', toks := tk }) E s)
    (hs : ∀ x, foldedSetIterable iter env x = pure x) :
    wpAny (model PR w) A (exec (.Assign [.Name yo pyo] (Nest elt iter x y px py py2 sc1 sc2 pos pos2) spos) env) Q E s := by
  refine lcA_obj (n := 2) (P := fun i v => [Value.ref a0, .ref a1][i]? = some v) (fun _ => true) (ShG a0 a1 (r0.map f) (r1.map f)) hsw ok.clos1 ok.cell1 ok.kind1 ok.names1 ok.x1 hy hp (wpAny_mono h (fun xv s₁ h₁ => ?_) fun _ _ e => e) hs
  obtain ⟨m, hnL, rfl, ⟨hl, h0, h1, n0, n1, he⟩, hQ⟩ := h₁
  refine ⟨m, hnL, src_two ok.hh hl, two_size, ?_, ?_, ?_⟩
  · intro C i v s₃ m₃ E' hP hC hn hm hst
    exact tests_nil ⟨rfl, keeps_self⟩
  · intro C i v s₃ m₃ E' hP _ hC hn hm hst
    exact nest_elt ok he h0 h1 n0 n1 hP hn hm hst
  · intro D h' tk ys vs hD hpl hlen hP hF hn hk
    obtain ⟨T0, T1, hpl', k0, k1, b0, b1⟩ := nest_two hpl hlen hP hF
    exact hQ D T0 T1 h' tk ⟨hD, k0, k1, hpl', b0, b1⟩ hn hk
end
/-- the places of a range from 0 -/
def Pl (n : Nat) (i : Nat) (v : Value) : Prop := i < n ∧ ∃ t, v = .int ((i : Nat) : Int) t
theorem src_places {w : World} {A : Around} {h : Heap} {r : Addr} {n : Nat} {t u v : Tok} (hh : A.handled = none) (hr : IsRange h r 0 ((n : Nat) : Int) 1 t u v) (hn : n ≤ 100) : SrcR w A h (.ref r) n (Pl n) := by
  have e : (Pl n) = fun i v => i < n ∧ ∃ t, v = .int (0 + ((i : Nat) : Int) * 1) t := by
    funext i v
    simp [Pl]
  rw [e]
  exact src_range hh hr (small_one (by decide) (by decide) (by omega) (by omega)) (by rw [rangeSize_one]; split <;> omega)
theorem due_at_map {rr : List (List UInt8)} {i : Nat} (hi : i < rr.length) : (rr.map due).getD i [] = due (rr.getD i []) := by simp [List.getD_eq_getElem?_getD, hi]
theorem isList_of {h : Heap} {l : Addr} {o : Obj} {its : Array Value} {n : Nat} (e : h.get? l = some o) (hc : o.cls = .type "list") (hd : o.data = .seq its n) : h.IsList l its := ⟨o, e, hc, n, hd⟩
end
section
set_option maxRecDepth 100000
open Builtin.Bytes (order)
/-- the list in rising order -/
noncomputable def sortB (bs : List (List UInt8)) : List (List UInt8) := Classical.epsilon fun z => z.Perm bs ∧ Rising z
theorem sortB_spec {bs z : List (List UInt8)} (hp : z.Perm bs) (hr : Rising z) : (sortB bs).Perm bs ∧ Rising (sortB bs) := Classical.epsilon_spec (p := fun z => z.Perm bs ∧ Rising z) ⟨z, hp, hr⟩
theorem sortB_eq {bs z : List (List UInt8)} (hp : z.Perm bs) (hr : Rising z) : z = sortB bs :=
  rising_unique (hp.trans (sortB_spec hp hr).1.symm) hr (sortB_spec hp hr).2
theorem sorted_due {bs z : List (List UInt8)} (h : (sortB bs).Perm bs ∧ Rising (sortB bs)) (hp : z.Perm (bs.map due)) (hr : Rising z) : z = (sortB bs).map due :=
  rising_unique (hp.trans (h.1.map due).symm) hr (rising_due h.2)
theorem nodup_due {bs : List (List UInt8)} (h : bs.Nodup) : (bs.map due).Nodup := List.pairwise_map.mpr (h.imp fun {a b} hne e => hne (due_inj e))
theorem mem_due {x : List UInt8} {l : List (List UInt8)} : due x ∈ l.map due ↔ x ∈ l := by
  rw [List.mem_map]
  exact ⟨fun ⟨y, hy, e⟩ => due_inj e ▸ hy, fun h => ⟨x, h, rfl⟩⟩
theorem filter_due {x y r : List (List UInt8)} (hy : y.Perm r) : (x.map due).filter (fun z => decide (z ∉ y.map due)) = (x.filter fun z => !decide (z ∈ r)).map due := by
  rw [List.filter_map]
  congr 1
  refine List.filter_congr fun z _ => ?_
  show decide (due z ∉ y.map due) = _
  rw [decide_not]
  have : (due z ∈ y.map due) ↔ z ∈ r := mem_due.trans hy.mem_iff
  simp [this]
theorem sld_due {r0 r1 : List (List UInt8)} (h0 : (sortB r0).Perm r0 ∧ Rising (sortB r0)) (h1 : (sortB r1).Perm r1 ∧ Rising (sortB r1)) :
    (sld ((sortB r0).map due) ((sortB r1).map due)).1 = ((sortB r0).filter fun z => !decide (z ∈ r1)).map due ∧ (sld ((sortB r0).map due) ((sortB r1).map due)).2 = ((sortB r1).filter fun z => !decide (z ∈ r0)).map due := by
  have h := sld_filter _ _ (rising_due h0.2) (rising_due h1.2)
  exact ⟨h.1.trans (filter_due h1.1), h.2.trans (filter_due h0.1)⟩
theorem last_max {x : List (List UInt8)} {M : List UInt8} (hx : Rising x) (hM : M ∈ x) (hlt : ∀ r ∈ x, r ≠ M → order r M = .lt) : x.getLast? = some M := by
  have hne : x ≠ [] := fun e => by rw [e] at hM; cases hM
  rw [List.getLast?_eq_some_getLast hne]
  by_cases h : x.getLast hne = M
  · rw [h]
  · have h1 := hlt _ (List.getLast_mem hne) h
    obtain ⟨i, hi, e⟩ := List.getElem_of_mem hM
    have hl : x.getLast hne = x[x.length - 1]'(by have := List.length_pos_iff.mpr hne; omega) := List.getLast_eq_getElem hne
    have hi2 : i < x.length - 1 := by
      rcases Nat.lt_or_ge i (x.length - 1) with h3 | h3
      · exact h3
      · exfalso; apply h; rw [hl, ← e]; congr 1; omega
    have h2 := List.pairwise_iff_getElem.mp hx i (x.length - 1) hi (by omega) hi2
    rw [e, ← hl] at h2
    have h3 := ord_trans h1 h2
    rw [ord_self] at h3; cases h3
theorem last_ne {r0 r1 : List (List UInt8)} {M : List UInt8} (h0 : (sortB r0).Perm r0 ∧ Rising (sortB r0)) (h1 : (sortB r1).Perm r1 ∧ Rising (sortB r1)) (hM : M ∈ r0) (hlt0 : ∀ r ∈ r0, r ≠ M → order r M = .lt) (hlt1 : ∀ r ∈ r1, order r M = .lt) :
    ((sortB r0).map due).getLast? ≠ ((sortB r1).map due).getLast? := by
  have e0 := last_max h0.2 (h0.1.mem_iff.mpr hM) fun r hr => hlt0 r (h0.1.mem_iff.mp hr)
  rw [List.getLast?_map, List.getLast?_map, e0]
  intro e
  cases e1 : (sortB r1).getLast? with
  | none => rw [e1] at e; cases e
  | some m =>
    rw [e1] at e
    have e2 : M = m := due_inj (Option.some.inj e)
    have hm : m ∈ r1 := h1.1.mem_iff.mp (List.mem_of_getLast? e1)
    have := hlt1 m hm
    rw [e2, ord_self] at this; cases this
section
variable {w : World} {A : Around} {E : Value → Shared → Prop} {s : Shared} {env : Env} {elt iter : PySem.Expr} {x y : Str} {px py pos spos : Pos} {ifs : List PySem.Expr} {scope : Scope} {cl : List (Str × Addr)}
/-- y = [elt for x in iter if ..], over a list of bytes, told as bytes -/
theorem lcA_bs {Q : Flow → Shared → Prop} (p : List UInt8 → Bool) (f : List UInt8 → List UInt8) {rs : List (List UInt8)}
    (hh : A.handled = none) (hclos : closureFor scope env = pure cl) (hcell : ∀ y ∈ scope.names, y.2 ≠ .cell) (hkind : scope.kind = .function)
    (hnames : ∀ y ∈ scope.names, y.2 = .local → scope.names.lookup y.1 = some .local) (hx : scope.names.lookup x = some .local)
    (hsw : swapsWith (.ListComp elt [⟨.Name x px, iter, ifs, 0⟩] scope pos) (some (.Name y py)) spos.line env = pure true)
    (hy : env.kindOf y = some .local) (hp : (env.scope.kind == .class || (env.scope.kind == .module && env.locals != env.globals)) = false)
    (h : wpAny (model PR w) A (eval iter env) (fun xv s₁ => ∃ l m, s₁.heap.Ns env.locals m ∧ xv = .ref l ∧ BL s₁.heap l rs ∧ rs.length ≤ 100 ∧
      (∀ C r t s₃ m₃ E', r ∈ rs → s₃.heap.Ns C m₃ → m₃ x = some (.bytes (List.toArray r) t) → s₁.heap.StaysIn s₃.heap →
        wpAny (model PR w) A (lcTests ifs (compEnvC scope cl C env)) (fun ok s₄ => ok = p r ∧ Keeps s₃ s₄) E' s₃) ∧
      (∀ C r t s₃ m₃ E', r ∈ rs → p r = true → s₃.heap.Ns C m₃ → m₃ x = some (.bytes (List.toArray r) t) → s₁.heap.StaysIn s₃.heap →
        wpAny (model PR w) A (eval elt (compEnvC scope cl C env)) (fun v s₄ => (∃ t, v = .bytes (List.toArray (f r)) t) ∧ Keeps s₃ s₄) E' s₃) ∧
      (∀ D h' tk vs, s₁.heap.get? D = none → h'.PlainList D (List.toArray vs) → BsAre vs ((rs.filter p).map f) → h'.Ns env.locals (fun z => if z = y then some (.ref D) else m z) → (∀ b o, b ≠ env.locals → s₁.heap.get? b = some o → h'.get? b = some o) → Q .next { s₁ with heap := h', toks := tk })) E s)
    (hs : ∀ x, foldedSetIterable iter env x = pure x) :
    wpAny (model PR w) A (exec (.Assign [.Name y py] (.ListComp elt [⟨.Name x px, iter, ifs, 0⟩] scope pos) spos) env) Q E s := by
  refine lcA_imm (n := rs.length) (P := fun i v => ∃ t, i < rs.length ∧ v = .bytes (List.toArray (rs.getD i [])) t) (fun v => p (bsOf v)) (fun v z => ∃ t, z = .bytes (List.toArray (f (bsOf v))) t) hsw hclos hcell hkind hnames hx hy hp (wpAny_mono h (fun xv s₁ h₁ => ?_) fun _ _ e => e) hs
  obtain ⟨l, m, hnL, rfl, ⟨vs, hl, hb⟩, hlen, ht, he, hQ⟩ := h₁
  have hmem : ∀ {i}, i < rs.length → rs.getD i [] ∈ rs := fun {i} hi => by rw [List.getD_eq_getElem?_getD, List.getElem?_eq_getElem hi]; exact List.getElem_mem hi
  refine ⟨m, hnL, ?_, sizeLine_100 hlen, ?_, ?_, ?_⟩
  · have S := src_list (w := w) (A := A) hh hl
    refine ⟨fun s E Q hs hQ => S.go s E Q hs fun I fp wr St h₂ W => ?_⟩
    rw [bs_len hb] at W
    refine hQ I fp wr St h₂ ⟨W.sub, W.frame, fun i s Q E hi hst hQ => W.item i s Q E hi hst fun v h' tk hP => hQ v h' tk ?_, W.done, W.self⟩
    obtain ⟨t, e⟩ := bs_at hb hi
    rw [e] at hP
    exact ⟨t, hi, (Option.some.inj hP).symm⟩
  · rintro C i v s₃ m₃ E' ⟨t, hi, rfl⟩ hC hn hm hst
    exact ht C _ t s₃ m₃ E' (hmem hi) hn hm hst
  · rintro C i v s₃ m₃ E' ⟨t, hi, rfl⟩ hp hC hn hm hst
    exact he C _ t s₃ m₃ E' (hmem hi) hp hn hm hst
  · intro D h' tk ys us hD hpl hul hP hF hn hk
    have hub : BsAre us rs := by
      refine paired_of_get hul fun j a b ha hb => ?_
      obtain ⟨t, hj, e⟩ := hP j a ha
      refine ⟨t, ?_⟩
      rw [e, List.getD_eq_getElem?_getD, hb]; rfl
    have e1 : us.map bsOf = rs := bs_of hub
    refine hQ D h' tk ys.toList hD (by simpa using hpl) ?_ hn hk
    have key : ∀ {us : List Value} {rs : List (List UInt8)}, us.map bsOf = rs → (rs.filter p).map f = (us.filter fun v => p (bsOf v)).map fun v => f (bsOf v) := by
      rintro us rs rfl
      rw [List.filter_map, List.map_map]; rfl
    rw [key e1]
    have : ∀ {l1 l2 : List Value}, Paired (fun v z => ∃ t, z = Value.bytes (List.toArray (f (bsOf v))) t) l1 l2 → BsAre l2 (l1.map fun v => f (bsOf v)) := fun {l1 l2} hp => by
      induction hp with
      | nil => exact .nil
      | cons h _ ih => exact .cons h ih
    exact this hF
theorem ne_empty {a b : Addr} {Q : Value → Shared → Prop} (ha : s.heap.IsList a #[]) (hb : s.heap.IsList b #[]) (hu : A.units < cLine) (h : Q (.bool false) s) : wpAny (model PR w) A (compareOp .NotEq (.ref a) (.ref b)) Q E s :=
  SeqAt.RcNeAt.lists (e := fun _ => true) ha hb rfl hu (fun j h1 _ => absurd h1 (Nat.not_lt_zero j)) PR w E Q h
theorem ns_slots {h h' : Heap} {L : Addr} {o : Obj} {m : Str → Option Value} (hn : h.Ns L m) (ho : h.get? L = some o) (hs : ∃ sl, h'.get? L = some { o with slots := sl }) : h'.Ns L m := by
  obtain ⟨o', es, ep, e, d, k, f⟩ := hn
  rw [ho] at e; cases e
  obtain ⟨sl, e'⟩ := hs
  exact ⟨_, es, ep, e', d, k, f⟩
end
end
theorem top_off_L1 : True := by (w_top off; trivial)
section
set_option maxRecDepth 100000
theorem news_add {h₀ h h' : Heap} {L a : Addr} {o : Obj} {m : Str → Option Value} {news : List (Addr × Obj)} (F : Fr h₀ L h m) (N : News h₀ L h' news) (e : h'.get? a = some o) (f : h.get? a = none) : News h₀ L h' ((a, o) :: news) := by
  intro q hq
  rcases List.mem_cons.mp hq with rfl | hq
  · refine ⟨e, ?_, ?_⟩
    · rintro rfl
      obtain ⟨o', _, _, e', _⟩ := F.ns
      rw [f] at e'; cases e'
    · cases e' : h₀.get? _ with
      | none => rfl
      | some o' => have := F.keep _ o' e'; rw [f] at this; cases this
  · exact N q hq
theorem fr_but {h₀ h h' : Heap} {L : Addr} {m m' : Str → Option Value} (F : Fr h₀ L h m) (hn : h'.Ns L m') (hk : ∀ b o, b ≠ L → h.get? b = some o → h'.get? b = some o) : Fr h₀ L h' m' :=
  ⟨hn, fun b o e => hk b o (Nat.ne_of_lt (Nat.lt_of_lt_of_le (Heap.lt_size e) F.above)) (F.keep b o e), F.above⟩
theorem news_but {h₀ h h' : Heap} {L : Addr} {news : List (Addr × Obj)} (N : News h₀ L h news) (hk : ∀ b o, b ≠ L → h.get? b = some o → h'.get? b = some o) : News h₀ L h' news :=
  fun q hq => ⟨hk _ _ (N q hq).2.1 (N q hq).1, (N q hq).2⟩
noncomputable def unDue (z : List UInt8) : List UInt8 := Classical.epsilon fun r => due r = z
theorem unDue_due (r : List UInt8) : unDue (due r) = r := due_inj (Classical.epsilon_spec (p := fun q => due q = due r) ⟨r, rfl⟩)
theorem map_un (f : List UInt8 → List UInt8) (rs : List (List UInt8)) : (rs.map due).map (fun z => f (unDue z)) = rs.map f := by
  rw [List.map_map]
  exact List.map_congr_left fun r _ => by show f (unDue (due r)) = f r; rw [unDue_due]
theorem map_un0 (rs : List (List UInt8)) : (rs.map due).map unDue = rs := by
  rw [List.map_map]
  exact (List.map_congr_left fun r _ => unDue_due r).trans (List.map_id rs)
theorem len_due {r0 : List (List UInt8)} (h : r0.length ≤ 14) : (r0.map due).length ≤ 100 := by rw [List.length_map]; omega
theorem news_drop1 {h₀ h : Heap} {L : Addr} {a b : Addr × Obj} {r : List (Addr × Obj)} (N : News h₀ L h (a :: b :: r)) : News h₀ L h (a :: r) := fun q hq => N q (by
  simp only [List.mem_cons] at hq ⊢
  rcases hq with h | h <;> simp [h])
theorem news_tail {h₀ h : Heap} {L : Addr} {a : Addr × Obj} {r : List (Addr × Obj)} (N : News h₀ L h (a :: r)) : News h₀ L h r := fun q hq => N q (List.mem_cons_of_mem _ hq)
theorem istup_up {h h' : Heap} {a : Addr} {its : Array Value} (ht : IsTup h a its) (k : h.StaysIn h') : IsTup h' a its := by
  obtain ⟨o, e, r⟩ := ht
  exact ⟨o, k a o e, r⟩
theorem news_drop3 {h₀ h : Heap} {L : Addr} {a b c d : Addr × Obj} {r : List (Addr × Obj)} (N : News h₀ L h (a :: b :: c :: d :: r)) : News h₀ L h (a :: b :: c :: r) := fun q hq => N q (by
  simp only [List.mem_cons] at hq ⊢
  rcases hq with h | h | h | h <;> simp [h])
section
variable {w : World} {p : Program} {loose : List Str} {mean : ExcName → Option Value} {mg mb : Str → Option Value} {dp un : Nat} {gd : Option (List Code)} {E Q : Value → Shared → Prop} {s : Shared}
set_option maxHeartbeats 8000000 in
theorem law_call {a : Addr} {vs : List Value} {ns : List Int}
    (X : (Mine.hd.heap_39 w.params).In s.heap) (T : Top p loose mean mg mb s.heap) (hdp : dp + 20 < recursionLimit) (hu : un + 200 < cLine) (ha : s.heap.IsList a vs.toArray) (hv : IntsAre vs ns) (hn : ns.length ≤ 63)
    (hQ : ∀ h' tk, s.heap.StaysIn h' → Q (.bool true) { s with heap := h', toks := tk }) :
    wpAny (model PR w) (MA dp un (some []) gd) (call (.ref 154) [.ref a]) Q E s := by
  walk_at "mine fill"
  k_dflt (refine' call_myC (binds := [("script", .ref a)]) ?k3 ?k5 ?k6 ?k7 ?k8 ?k9 ?kB ?kD ?_ ?c2 ?c3 ?c4; walk_at "mine sidesC")
  walk_at "mine stepsw"
  rename Fr _ _ _ _ => F0
  rename News _ _ _ _ => N0
  rename IntsAre _ (List.take 6 ns) => hI6
  rename_i L hA tkA hLs oc4 oc3 oc2 oc1 d4 d3 d2 d1 D ws hB hC hC2 hl1
  refine shelves_call (ns := ns.take 6) (X.keeps F0.keep) (Top.keeps T F0.keep) ?kd ?ku ⟨_, (N0 _ (List.Mem.head _)).1, rfl, _, rfl⟩ hI6 (by rw [List.length_take]; omega) ?_
  case kd => walk_at "mine room"
  case ku => walk_at "mine units"
  intro l0 l1 ls v0 v1 r0 r1 h1 tk1 hst hls hl0 hl1 hb0 hb1 hok z0 z1 fs f0 f1
  obtain ⟨ns0, hls⟩ := hls
  obtain ⟨n0, hl0⟩ := hl0
  obtain ⟨n1, hl1⟩ := hl1
  have N1 := news_add F0 (news_add F0 (news_add F0 (News.grown N0 hst) hl0 f0) hl1 f1) hls fs
  have N2 := news_drop3 N1
  have F1 := Fr.keeps F0 hst
  clear F0 N0 N1 hC hC2 hl1 hls hl0 fs f0 f1 hst hI6
  with_unfolding_all refine stCNk (own := [_, _, _, _, _, _]) (rest := []) F1 N2 rfl (by assumption) (by cells_apart) (by cells_apart) ?_
  intro h2 ob F2 N3 hob
  clear F1 N2 d1
  dsimp only [List.cons_append, List.nil_append] at N3
  have hrow : ∀ r ∈ r0 ++ r1, ∃ q, r.length = 3 * q ∧ q ≤ 2 ∧ r.length ≤ 6 := fun r hr => by
    have h : RowOk r := by
      rcases List.mem_append.mp hr with hr | hr
      · exact hok.1 r hr
      · exact hok.2.1 r hr
    rcases h with h | h
    · exact ⟨1, h, by decide, by omega⟩
    · exact ⟨2, h, by decide, by omega⟩
  walk_at "mine stepsw"
  refine nestA (f := due) (d := ls) (a0 := l0) (a1 := l1) (r0 := r0) (r1 := r1) (cl1 := []) (cl2 := []) ⟨rfl, by with_unfolding_all rfl, by decide, rfl, by decide, rfl, fun _ => by with_unfolding_all rfl, by decide, rfl, by decide, rfl, by decide⟩ (by with_unfolding_all rfl) (by rfl) (by rfl) ?_ (fun _ => by with_unfolding_all rfl)
  walk_at "mine stepsw"
  refine ⟨_, F2.ns, rfl, ⟨⟨_, (N3 _ (List.mem_of_getElem? (i := 0) rfl)).1, rfl, _, rfl⟩, ⟨v0, ⟨_, (N3 _ (List.mem_of_getElem? (i := 2) rfl)).1, rfl, _, rfl⟩, hb0⟩, ⟨v1, ⟨_, (N3 _ (List.mem_of_getElem? (i := 1) rfl)).1, rfl, _, rfl⟩, hb1⟩, by omega, by omega, ?_⟩, ?_⟩
  · intro C1 C2 r t s₃ m₃ E' hr hn hm hst
    have X3 := (X.keeps F2.keep).keeps hst
    have T3 := Top.keeps T (fun b o e => hst b o (F2.keep b o e))
    obtain ⟨q, q1, q2, q3⟩ := hrow r hr
    walk_at "mine steps"
    refine letters_call X3 T3 (by walk_at "mine room") (by walk_at "mine units") q3 fun t' h' tk' hst' => ?_
    exact ⟨⟨t', rfl⟩, h', tk', rfl, hst'⟩
  rintro D T0 T1 h3 tk3 ⟨nD, nT0, nT1, ⟨nl, pD⟩, ⟨w0, ⟨⟨c0, dd0, da0, sl0⟩, g0, hc0, m0, hd0⟩, hw0⟩, ⟨w1, ⟨⟨c1, dd1, da1, sl1⟩, g1, hc1, m1, hd1⟩, hw1⟩⟩ hn hk
  dsimp only at hc0 hd0 hc1 hd1
  subst hc0 hd0 hc1 hd1
  have F3 := fr_but F2 hn hk
  have N4 := news_add F2 (news_add F2 (news_add F2 (news_but N3 hk) g0 nT0) g1 nT1) pD nD
  clear F2 N3 hn hk nD nT0 nT1 pD g0 g1
  (try dsimp only)
  have hcl := cLine_is
  walk_at "mine stepsw"
  refine nest (f := due) (d := ls) (a0 := l0) (a1 := l1) (r0 := r0) (r1 := r1) (cl1 := []) (cl2 := []) ⟨rfl, by with_unfolding_all rfl, by decide, rfl, by decide, rfl, fun _ => by with_unfolding_all rfl, by decide, rfl, by decide, rfl, by decide⟩ ?_ (fun _ => by with_unfolding_all rfl)
  walk_at "mine stepsw"
  refine ⟨rfl, ⟨⟨_, (N4 _ (List.mem_of_getElem? (i := 3) rfl)).1, rfl, _, rfl⟩, ⟨v0, ⟨_, (N4 _ (List.mem_of_getElem? (i := 5) rfl)).1, rfl, _, rfl⟩, hb0⟩, ⟨v1, ⟨_, (N4 _ (List.mem_of_getElem? (i := 4) rfl)).1, rfl, _, rfl⟩, hb1⟩, by omega, by omega, ?_⟩, ?_⟩
  · intro C1 C2 r t s₃ m₃ E' hr hn hm hst
    have X3 := (X.keeps F3.keep).keeps hst
    have T3 := Top.keeps T (fun b o e => hst b o (F3.keep b o e))
    obtain ⟨q, q1, q2, q3⟩ := hrow r hr
    walk_at "mine steps"
    refine due_call X3 T3 (by walk_at "mine room") (by walk_at "mine units") q3 fun t' h' tk' hst' => ?_
    exact ⟨⟨t', rfl⟩, h', tk', rfl, hst'⟩
  rintro D2 U0 U1 h4 tk4 ⟨_, _, _, p2, b0, b1⟩ hst
  have F4 := Fr.keeps F3 hst
  have N5 := News.grown N4 hst
  clear F3 N4
  walk_at "mine stepsw"
  refine ne_bll (x0 := r0.map due) (x1 := r1.map due) ⟨T0, T1, ⟨_, (N5 _ (List.mem_of_getElem? (i := 0) rfl)).1, rfl, _, rfl⟩, ⟨w0, ⟨_, (N5 _ (List.mem_of_getElem? (i := 2) rfl)).1, rfl, _, rfl⟩, hw0⟩, ⟨w1, ⟨_, (N5 _ (List.mem_of_getElem? (i := 1) rfl)).1, rfl, _, rfl⟩, hw1⟩⟩ ⟨U0, U1, p2.isList, b0, b1⟩ (by walk_at "mine units") ?_
  clear p2 b0 b1 hst
  walk_at "mine stepsw"
  refine nest (f := signs) (d := ls) (a0 := l0) (a1 := l1) (r0 := r0) (r1 := r1) (cl1 := []) (cl2 := []) ⟨rfl, by with_unfolding_all rfl, by decide, rfl, by decide, rfl, fun _ => by with_unfolding_all rfl, by decide, rfl, by decide, rfl, by decide⟩ ?_ (fun _ => by with_unfolding_all rfl)
  walk_at "mine stepsw"
  refine ⟨rfl, ⟨⟨_, (N5 _ (List.mem_of_getElem? (i := 3) rfl)).1, rfl, _, rfl⟩, ⟨v0, ⟨_, (N5 _ (List.mem_of_getElem? (i := 5) rfl)).1, rfl, _, rfl⟩, hb0⟩, ⟨v1, ⟨_, (N5 _ (List.mem_of_getElem? (i := 4) rfl)).1, rfl, _, rfl⟩, hb1⟩, by omega, by omega, ?_⟩, ?_⟩
  · intro C1 C2 r t s₃ m₃ E' hr hn hm hst
    have X3 := (X.keeps F4.keep).keeps hst
    have T3 := Top.keeps T (fun b o e => hst b o (F4.keep b o e))
    obtain ⟨q, q1, q2, q3⟩ := hrow r hr
    walk_at "mine steps"
    refine enc_call X3 T3 (by walk_at "mine room") q1 q2 fun t' h' tk' hst' => ?_
    exact ⟨⟨t', rfl⟩, h', tk', rfl, hst'⟩
  rintro D3 V0 V1 h5 tk5 ⟨_, _, _, p3, b3, b4⟩ hst
  have F5 := Fr.keeps F4 hst
  have N6 := News.grown N5 hst
  clear F4 N5
  walk_at "mine stepsw"
  refine nest (f := fun z => signs (unDue z)) (d := D) (a0 := T0) (a1 := T1) (r0 := r0.map due) (r1 := r1.map due) (cl1 := []) (cl2 := []) ⟨rfl, by with_unfolding_all rfl, by decide, rfl, by decide, rfl, fun _ => by with_unfolding_all rfl, by decide, rfl, by decide, rfl, by decide⟩ ?_ (fun _ => by with_unfolding_all rfl)
  walk_at "mine stepsw"
  refine ⟨rfl, ⟨⟨_, (N6 _ (List.mem_of_getElem? (i := 0) rfl)).1, rfl, _, rfl⟩, ⟨w0, ⟨_, (N6 _ (List.mem_of_getElem? (i := 2) rfl)).1, rfl, _, rfl⟩, hw0⟩, ⟨w1, ⟨_, (N6 _ (List.mem_of_getElem? (i := 1) rfl)).1, rfl, _, rfl⟩, hw1⟩, len_due z0, len_due z1, ?_⟩, ?_⟩
  · intro C1 C2 r t s₃ m₃ E' hr hn hm hst
    have X3 := (X.keeps F5.keep).keeps hst
    have T3 := Top.keeps T (fun b o e => hst b o (F5.keep b o e))
    rw [← List.map_append] at hr
    obtain ⟨r', hr', rfl⟩ := List.mem_map.mp hr
    obtain ⟨q, q1, q2, q3⟩ := hrow r' hr'
    dsimp only
    rw [unDue_due]
    walk_at "mine steps"
    refine signs_call X3 T3 (by walk_at "mine room") (by walk_at "mine units") q1 q2 fun t' h' tk' hst' => ?_
    exact ⟨⟨t', rfl⟩, h', tk', rfl, hst'⟩
  rintro D4 Y0 Y1 h6 tk6 ⟨_, _, _, p4, b5, b6⟩ hst2
  have F6 := Fr.keeps F5 hst2
  have N7 := News.grown N6 hst2
  clear F5 N6
  rw [map_un] at b5 b6
  walk_at "mine stepsw"
  refine ne_bll (x0 := r0.map signs) (x1 := r1.map signs) ⟨V0, V1, isList_up p3.isList hst2, bl_up b3 hst2, bl_up b4 hst2⟩ ⟨Y0, Y1, p4.isList, b5, b6⟩ (by walk_at "mine units") ?_
  clear p3 b3 b4 p4 b5 b6 hst hst2
  walk_at "mine stepsw"
  refine nest (f := unDue) (d := D) (a0 := T0) (a1 := T1) (r0 := r0.map due) (r1 := r1.map due) (cl1 := []) (cl2 := []) ⟨rfl, by with_unfolding_all rfl, by decide, rfl, by decide, rfl, fun _ => by with_unfolding_all rfl, by decide, rfl, by decide, rfl, by decide⟩ ?_ (fun _ => by with_unfolding_all rfl)
  walk_at "mine stepsw"
  refine ⟨rfl, ⟨⟨_, (N7 _ (List.mem_of_getElem? (i := 0) rfl)).1, rfl, _, rfl⟩, ⟨w0, ⟨_, (N7 _ (List.mem_of_getElem? (i := 2) rfl)).1, rfl, _, rfl⟩, hw0⟩, ⟨w1, ⟨_, (N7 _ (List.mem_of_getElem? (i := 1) rfl)).1, rfl, _, rfl⟩, hw1⟩, len_due z0, len_due z1, ?_⟩, ?_⟩
  · intro C1 C2 r t s₃ m₃ E' hr hn hm hst
    have X3 := (X.keeps F6.keep).keeps hst
    have T3 := Top.keeps T (fun b o e => hst b o (F6.keep b o e))
    rw [← List.map_append] at hr
    obtain ⟨r', hr', rfl⟩ := List.mem_map.mp hr
    obtain ⟨q, q1, q2, q3⟩ := hrow r' hr'
    rw [unDue_due]
    walk_at "mine steps"
    refine signs_call X3 T3 (by walk_at "mine room") (by walk_at "mine units") q1 q2 fun t' h' tk' hst' => ?_
    have X4 := X3.keeps hst'
    have T4 := Top.keeps T3 hst'
    walk_at "mine steps"
    refine dec_call X4 T4 (by walk_at "mine room") q1 q2 fun t2 h2' tk2' hst2' => ?_
    exact ⟨⟨t2, rfl⟩, h2', tk2', rfl, fun b o e => hst2' b o (hst' b o e)⟩
  rintro D5 Z0 Z1 h7 tk7 ⟨_, _, _, p5, b7, b8⟩ hst
  have F7 := Fr.keeps F6 hst
  have N8 := News.grown N7 hst
  clear F6 N7
  rw [map_un0] at b7 b8
  walk_at "mine stepsw"
  refine ne_bll (x0 := r0) (x1 := r1) ⟨Z0, Z1, p5.isList, b7, b8⟩ ⟨l0, l1, ⟨_, (N8 _ (List.mem_of_getElem? (i := 3) rfl)).1, rfl, _, rfl⟩, ⟨v0, ⟨_, (N8 _ (List.mem_of_getElem? (i := 5) rfl)).1, rfl, _, rfl⟩, hb0⟩, ⟨v1, ⟨_, (N8 _ (List.mem_of_getElem? (i := 4) rfl)).1, rfl, _, rfl⟩, hb1⟩⟩ (by walk_at "mine units") ?_
  clear p5 b7 b8 hst
  have e0 := bs_len hb0
  have e1 := bs_len hb1
  have ew0 := bs_len hw0
  have ew1 := bs_len hw1
  rw [List.length_map] at ew0 ew1
  walk_at "mine stepsw"
  refine kmk_add_lit (its := v0.toArray) (its2 := v1.toArray) (zs := v0 ++ v1) F7 N8 ⟨_, (N8 _ (List.mem_of_getElem? (i := 5) rfl)).1, rfl, _, rfl⟩ ⟨_, (N8 _ (List.mem_of_getElem? (i := 4) rfl)).1, rfl, _, rfl⟩ rfl (fun DR h8 F8 N9 o8 => ?_) (by simp [sizeLine_eq]; omega)
  clear F7 N8
  walk_at "mine stepsw"
  refine kmk_add_lit (its := w0.toArray) (its2 := w1.toArray) (zs := w0 ++ w1) F8 N9 ⟨_, (N9 _ (List.mem_of_getElem? (i := 3) rfl)).1, rfl, _, rfl⟩ ⟨_, (N9 _ (List.mem_of_getElem? (i := 2) rfl)).1, rfl, _, rfl⟩ rfl (fun DW h9 F9 N10 o9 => ?_) (by simp [sizeLine_eq]; omega)
  clear F8 N9
  walk_at "mine stepsw"
  rename Fr _ _ _ _ => F9
  rename News _ _ _ _ => N10'
  have N10 := fun q hq => N10' q (List.mem_cons_of_mem _ hq)
  clear N10'
  with_unfolding_all refine stCNk (own := [_, _, _, _, _, _, _, _, _, _]) (rest := [_]) F9 N10 rfl (by assumption) (by cells_apart) (by cells_apart) ?_
  intro h10 ob2 F10 N11 hob2
  clear F9 N10 d2
  dsimp only [List.cons_append, List.nil_append] at N11
  walk_at "mine stepsw"
  with_unfolding_all refine stCNk (own := [_, _, _, _, _, _, _, _, _]) (rest := [_, _]) F10 N11 rfl (by assumption) (by cells_apart) (by cells_apart) ?_
  intro h11 ob3 F11 N12 hob3
  clear F10 N11 d3
  dsimp only [List.cons_append, List.nil_append] at N12
  walk_at "mine stepsw"
  have hF := And.intro trivial F11
  have esz : (v0 ++ v1).toArray.size = r0.length + r1.length := by simp [e0, e1]
  refine Calls.call_len_list (items := (v0 ++ v1).toArray) ⟨_, (N12 _ (List.mem_of_getElem? (i := 1) rfl)).1, rfl, _, rfl⟩ (by rw [esz]; omega) ?_
  rw [esz]
  walk_at "mine stepsw"
  rename IsRange _ _ _ _ _ _ _ _ => hR
  rename Fr _ _ _ _ => F12
  rename News _ _ _ _ => N13
  have N14 := news_add hF.2 N13 hR (none_at (Nat.le_refl _))
  dsimp only at N14 ⊢
  generalize h11.objs.size = RG at N14 ⊢
  clear N13 hF hR
  with_unfolding_all refine stCNk (own := [_, _, _, _, _, _, _, _, _]) (rest := [_, _, _]) F12 N14 rfl (by assumption) (by cells_apart) (by cells_apart) ?_
  intro h13 ob4 F13 N15 hob4
  clear F12 N14 d4
  dsimp only [List.cons_append, List.nil_append] at N15
  walk_at "mine stepsw"
  have hxr : BsAre (v0 ++ v1) (r0 ++ r1) := paired_append hb0 hb1
  have hxw : BsAre (w0 ++ w1) ((r0 ++ r1).map due) := by rw [List.map_append]; exact paired_append hw0 hw1
  have hlr : (r0 ++ r1).length = r0.length + r1.length := List.length_append
  generalize hrr : r0 ++ r1 = rr at hxr hxw hlr
  have hn100 : r0.length + r1.length ≤ 100 := by omega
  refine' lc2_none (cl := [(Str.ofString "words_of", L + 1 + 1 + 1), (Str.ofString "rows_of", L + 1 + 1), (Str.ofString "places", L + 1 + 1 + 1 + 1)]) (x := Str.ofString "a") (z := Str.ofString "b") (n := r0.length + r1.length) (n2 := r0.length + r1.length) (P := Pl (r0.length + r1.length)) (P2 := Pl (r0.length + r1.length)) (by decide) ?hclos ?hcell ?hkind ?hnames ?hx ?hz ?_ ?hs1 ?hs2
  case hclos => with_unfolding_all rfl
  case hcell => decide
  case hkind => rfl
  case hnames => decide
  case hx => rfl
  case hz => rfl
  case hs1 => intro _; with_unfolding_all rfl
  case hs2 => intro _ _; with_unfolding_all rfl
  walk_at "mine stepsw"
  have hrg := (N15 _ (List.mem_of_getElem? (i := 0) rfl)).1
  have hcp := (N15 _ (List.mem_of_getElem? (i := 9) rfl)).1
  refine ⟨src_places rfl hrg hn100, ?_, ?_, ?_⟩
  · rintro C i v s₃ m₃ E' - - hn hm hst
    have ce := (⟨_, hst _ _ hcp, hob4⟩ : s₃.heap.IsCell _ _)
    have hrg' := hst _ _ hrg
    refine nameKC (c := L + 1 + 1 + 1 + 1) (v := .ref RG) (by kernel_rfl) ce ?_ (by kernel_rfl) (by kernel_rfl)
    exact ⟨src_places rfl hrg' hn100, keeps_self⟩
  · rintro C i j v v2 s₃ m₃ E' ⟨hi, t, rfl⟩ ⟨hj, t2, rfl⟩ - hn hm1 hm2 hst
    have cr := (⟨_, hst _ _ (N15 _ (List.mem_of_getElem? (i := 11) rfl)).1, hob2⟩ : s₃.heap.IsCell _ _)
    have cw := (⟨_, hst _ _ (N15 _ (List.mem_of_getElem? (i := 10) rfl)).1, hob3⟩ : s₃.heap.IsCell _ _)
    have lr : s₃.heap.IsList DR (v0 ++ v1).toArray := ⟨_, hst _ _ (N15 _ (List.mem_of_getElem? (i := 2) rfl)).1, rfl, _, rfl⟩
    have lw : s₃.heap.IsList DW (w0 ++ w1).toArray := ⟨_, hst _ _ (N15 _ (List.mem_of_getElem? (i := 1) rfl)).1, rfl, _, rfl⟩
    have X3 := (X.keeps F13.keep).keeps hst
    have T3 := Top.keeps T (fun b o e => hst b o (F13.keep b o e))
    rw [← hlr] at hi hj hn100
    refine wpAny_tests_one ?_
    walk_at "mine stepsv"
    refine nameKG (v := .ref 123) X3 (topRead_of T3) (by k_dflt k_is) ?_ rfl (by kernel_rfl) (by kernel_rfl) (by decide)
    walk_at "mine stepsv"
    refine nameKC (c := L + 1 + 1 + 1) (v := .ref DW) (by kernel_rfl) cw ?_ (by kernel_rfl) (by kernel_rfl)
    walk_at "mine stepsv"
    refine nameKL hn hm1 ?_ (by kernel_rfl) (by kernel_rfl)
    walk_at "mine stepsv"
    refine item_Bs i lw hxw rfl (by first | assumption | (rw [List.length_map]; assumption)) (by first | omega | (rw [List.length_map]; omega)) (fun _ => ?_) (by with_unfolding_all rfl) (fun _ => by with_unfolding_all rfl)
    walk_at "mine stepsv"
    refine nameKC (c := L + 1 + 1 + 1) (v := .ref DW) (by kernel_rfl) cw ?_ (by kernel_rfl) (by kernel_rfl)
    walk_at "mine stepsv"
    refine nameKL hn hm2 ?_ (by kernel_rfl) (by kernel_rfl)
    walk_at "mine stepsv"
    refine item_Bs j lw hxw rfl (by first | assumption | (rw [List.length_map]; assumption)) (by first | omega | (rw [List.length_map]; omega)) (fun _ => ?_) (by with_unfolding_all rfl) (fun _ => by with_unfolding_all rfl)
    walk_at "mine stepsv"
    refine cmp_call X3 T3 (by walk_at "mine room") fun t4 h4' tk4' hst4 => ?_
    have hn4 := hn.keeps hst4
    have cr2 := (⟨_, hst4 _ _ (hst _ _ (N15 _ (List.mem_of_getElem? (i := 11) rfl)).1), hob2⟩ : h4'.IsCell _ _)
    have lr2 : h4'.IsList DR (v0 ++ v1).toArray := isList_up lr hst4
    walk_at "mine stepsv"
    refine nameKC (c := L + 1 + 1) (v := .ref DR) (by kernel_rfl) cr2 ?_ (by kernel_rfl) (by kernel_rfl)
    walk_at "mine stepsv"
    refine nameKL hn4 hm1 ?_ (by kernel_rfl) (by kernel_rfl)
    walk_at "mine stepsv"
    refine item_Bs i lr2 hxr rfl (by first | assumption | (rw [List.length_map]; assumption)) (by first | omega | (rw [List.length_map]; omega)) (fun _ => ?_) (by with_unfolding_all rfl) (fun _ => by with_unfolding_all rfl)
    walk_at "mine stepsv"
    refine nameKC (c := L + 1 + 1) (v := .ref DR) (by kernel_rfl) cr2 ?_ (by kernel_rfl) (by kernel_rfl)
    walk_at "mine stepsv"
    refine nameKL hn4 hm2 ?_ (by kernel_rfl) (by kernel_rfl)
    walk_at "mine stepsv"
    refine item_Bs j lr2 hxr rfl (by first | assumption | (rw [List.length_map]; assumption)) (by first | omega | (rw [List.length_map]; omega)) (fun _ => ?_) (by with_unfolding_all rfl) (fun _ => by with_unfolding_all rfl)
    walk_at "mine stepsv"
    refine nameKC (c := L + 1 + 1) (v := .ref DR) (by kernel_rfl) cr2 ?_ (by kernel_rfl) (by kernel_rfl)
    walk_at "mine stepsv"
    refine nameKL hn4 hm1 ?_ (by kernel_rfl) (by kernel_rfl)
    walk_at "mine stepsv"
    refine item_Bs i lr2 hxr rfl (by first | assumption | (rw [List.length_map]; assumption)) (by first | omega | (rw [List.length_map]; omega)) (fun _ => ?_) (by with_unfolding_all rfl) (fun _ => by with_unfolding_all rfl)
    walk_at "mine stepsv"
    refine nameKC (c := L + 1 + 1) (v := .ref DR) (by kernel_rfl) cr2 ?_ (by kernel_rfl) (by kernel_rfl)
    walk_at "mine stepsv"
    refine nameKL hn4 hm2 ?_ (by kernel_rfl) (by kernel_rfl)
    walk_at "mine stepsv"
    refine item_Bs j lr2 hxr rfl (by first | assumption | (rw [List.length_map]; assumption)) (by first | omega | (rw [List.length_map]; omega)) (fun _ => ?_) (by with_unfolding_all rfl) (fun _ => by with_unfolding_all rfl)
    walk_at "mine stepsv"
    refine ⟨?_, h4', _, rfl, hst4⟩
    rw [due_at_map hi, due_at_map hj, cmp_due]
    exact bne_self_eq_false _
  rintro D6 h14 tk14 n6 ⟨m6, p6⟩ hst
  have F14 := Fr.keeps F13 hst
  have N16 := news_add F13 (News.grown N15 hst) p6 n6
  clear F13 N15 hst p6 n6 hrg hcp
  walk_at "mine stepsw"
  rename Fr _ _ _ _ => F15
  rename News _ _ _ _ => N17
  refine ne_empty ⟨_, (N17 _ (List.mem_of_getElem? (i := 1) rfl)).1, rfl, _, rfl⟩ ⟨_, (N17 _ (List.mem_of_getElem? (i := 0) rfl)).1, rfl, _, rfl⟩ (by walk_at "mine units") ?_
  have N18 := news_tail (news_tail (news_tail (news_tail (news_tail N17))))
  clear N17
  walk_at "mine stepsw"
  refine' lcA_bs (cl := [(Str.ofString "drawn", L + 1)]) (fun z => !decide (z ∈ r1)) due (rs := sortB r0) rfl ?hclos ?hcell ?hkind ?hnames ?hx ?hsw ?hy ?hp ?_ ?hs
  case hclos => with_unfolding_all rfl
  case hcell => decide
  case hkind => rfl
  case hnames => decide
  case hx => rfl
  case hsw => with_unfolding_all rfl
  case hy => rfl
  case hp => rfl
  case hs => intro _; with_unfolding_all rfl
  walk_at "mine stepsw"
  refine sorted_N_bs F15 N18 ⟨_, (N18 _ (List.mem_of_getElem? (i := 5) rfl)).1, rfl, _, rfl⟩ hb0 hok.2.2.1 (by omega) fun SDG hF16 vsDG bsDG eDG F16 N19 oDG hbsDG hperDG hriDG => ?_
  have hs0 := sortB_spec hperDG hriDG
  rw [sortB_eq hperDG hriDG] at hbsDG
  clear F15 N18 hperDG hriDG
  have hlDG := hs0.1.length_eq
  refine ⟨SDG, _, F16.ns, rfl, ⟨vsDG, ⟨_, (N19 _ (List.mem_of_getElem? (i := 0) rfl)).1, rfl, _, rfl⟩, hbsDG⟩, by omega, ?_, ?_, ?_⟩
  · intro C r t s₃ m₃ E' hr hn hm hst
    have cd := (⟨_, hst _ _ (N19 _ (List.mem_of_getElem? (i := 10) rfl)).1, hob⟩ : s₃.heap.IsCell _ _)
    have hls3 := hst _ _ (N19 _ (List.mem_of_getElem? (i := 4) rfl)).1
    have hl3 := hst _ _ (N19 _ (List.mem_of_getElem? (i := 5) rfl)).1
    refine wpAny_tests_one ?_
    walk_at "mine stepsv"
    refine nameKL hn hm ?_ (by kernel_rfl) (by kernel_rfl)
    walk_at "mine stepsv"
    refine nameKC (c := L + 1) (v := .ref ls) (by kernel_rfl) cd ?_ (by kernel_rfl) (by kernel_rfl)
    walk_at "mine stepsv"
    refine item_listL (l := [.ref l0, .ref l1]) ⟨_, hls3, rfl, _, rfl⟩ (by decide) (by decide) rfl ?_ (by with_unfolding_all rfl) (by intro _; with_unfolding_all rfl)
    walk_at "mine stepsv"
    refine notin_list_bs (vs := v1) (bs := r1) ⟨_, hl3, rfl, _, rfl⟩ hb1 ?_
    walk_at "mine stepsv"
    exact ⟨rfl, keeps_self⟩
  · intro C r t s₃ m₃ E' hr _ hn hm hst
    have X3 := (X.keeps F16.keep).keeps hst
    have T3 := Top.keeps T (fun b o e => hst b o (F16.keep b o e))
    obtain ⟨q, q1, q2, q3⟩ := hrow r (List.mem_append_left _ (hs0.1.mem_iff.mp hr))
    walk_at "mine stepsv"
    refine nameKG (v := .ref 142) X3 (topRead_of T3) (by k_dflt k_is) ?_ rfl (by kernel_rfl) (by kernel_rfl) (by decide)
    walk_at "mine stepsv"
    refine nameKL hn hm ?_ (by kernel_rfl) (by kernel_rfl)
    walk_at "mine stepsv"
    refine due_call X3 T3 (by walk_at "mine room") (by walk_at "mine units") q3 fun t' h' tk' hst' => ?_
    exact ⟨⟨t', rfl⟩, h', tk', rfl, hst'⟩
  rintro DG hF17 tkDG vg nDG ⟨mDG, pDG⟩ hgone hn hk
  have F17 := fr_but F16 hn hk
  have N20' := news_add F16 (news_but N19 hk) pDG nDG
  have N20 := news_drop1 N20'
  clear F16 N19 N20' hn hk nDG pDG
  (try dsimp only)
  walk_at "mine stepsw"
  refine' lcA_bs (cl := [(Str.ofString "drawn", L + 1)]) (fun z => !decide (z ∈ r0)) due (rs := sortB r1) rfl ?hclos ?hcell ?hkind ?hnames ?hx ?hsw ?hy ?hp ?_ ?hs
  case hclos => with_unfolding_all rfl
  case hcell => decide
  case hkind => rfl
  case hnames => decide
  case hx => rfl
  case hsw => with_unfolding_all rfl
  case hy => rfl
  case hp => rfl
  case hs => intro _; with_unfolding_all rfl
  walk_at "mine stepsw"
  refine sorted_N_bs F17 N20 ⟨_, (N20 _ (List.mem_of_getElem? (i := 5) rfl)).1, rfl, _, rfl⟩ hb1 hok.2.2.2.1 (by omega) fun SDC hF18 vsDC bsDC eDC F18 N21 oDC hbsDC hperDC hriDC => ?_
  have hs1 := sortB_spec hperDC hriDC
  rw [sortB_eq hperDC hriDC] at hbsDC
  clear F17 N20 hperDC hriDC
  have hlDC := hs1.1.length_eq
  refine ⟨SDC, _, F18.ns, rfl, ⟨vsDC, ⟨_, (N21 _ (List.mem_of_getElem? (i := 0) rfl)).1, rfl, _, rfl⟩, hbsDC⟩, by omega, ?_, ?_, ?_⟩
  · intro C r t s₃ m₃ E' hr hn hm hst
    have cd := (⟨_, hst _ _ (N21 _ (List.mem_of_getElem? (i := 11) rfl)).1, hob⟩ : s₃.heap.IsCell _ _)
    have hls3 := hst _ _ (N21 _ (List.mem_of_getElem? (i := 5) rfl)).1
    have hl3 := hst _ _ (N21 _ (List.mem_of_getElem? (i := 7) rfl)).1
    refine wpAny_tests_one ?_
    walk_at "mine stepsv"
    refine nameKL hn hm ?_ (by kernel_rfl) (by kernel_rfl)
    walk_at "mine stepsv"
    refine nameKC (c := L + 1) (v := .ref ls) (by kernel_rfl) cd ?_ (by kernel_rfl) (by kernel_rfl)
    walk_at "mine stepsv"
    refine item_listL (l := [.ref l0, .ref l1]) ⟨_, hls3, rfl, _, rfl⟩ (by decide) (by decide) rfl ?_ (by with_unfolding_all rfl) (by intro _; with_unfolding_all rfl)
    walk_at "mine stepsv"
    refine notin_list_bs (vs := v0) (bs := r0) ⟨_, hl3, rfl, _, rfl⟩ hb0 ?_
    walk_at "mine stepsv"
    exact ⟨rfl, keeps_self⟩
  · intro C r t s₃ m₃ E' hr _ hn hm hst
    have X3 := (X.keeps F18.keep).keeps hst
    have T3 := Top.keeps T (fun b o e => hst b o (F18.keep b o e))
    obtain ⟨q, q1, q2, q3⟩ := hrow r (List.mem_append_right _ (hs1.1.mem_iff.mp hr))
    walk_at "mine stepsv"
    refine nameKG (v := .ref 142) X3 (topRead_of T3) (by k_dflt k_is) ?_ rfl (by kernel_rfl) (by kernel_rfl) (by decide)
    walk_at "mine stepsv"
    refine nameKL hn hm ?_ (by kernel_rfl) (by kernel_rfl)
    walk_at "mine stepsv"
    refine due_call X3 T3 (by walk_at "mine room") (by walk_at "mine units") q3 fun t' h' tk' hst' => ?_
    exact ⟨⟨t', rfl⟩, h', tk', rfl, hst'⟩
  rintro DC hF19 tkDC vc nDC ⟨mDC, pDC⟩ hcome hn hk
  have F19 := fr_but F18 hn hk
  have N22' := news_add F18 (news_but N21 hk) pDC nDC
  have N22 := news_drop1 N22'
  clear F18 N21 N22' hn hk nDC pDC
  (try dsimp only)
  walk_at "mine stepsw"
  have hlast := last_ne hs0 hs1 hok.2.2.2.2.1 hok.2.2.2.2.2.1 hok.2.2.2.2.2.2.1
  have hm0 := List.length_pos_of_mem hok.2.2.2.2.1
  have hm1 := List.length_pos_of_mem hok.2.2.2.2.2.2.2
  have hpos0 : 0 < ((sortB r0).map due).length := by rw [List.length_map]; omega
  have hpos1 : 0 < ((sortB r1).map due).length := by rw [List.length_map]; omega
  have hle0 : ((sortB r0).map due).length ≤ 100 := by rw [List.length_map]; omega
  have hle1 : ((sortB r1).map due).length ≤ 100 := by rw [List.length_map]; omega
  refine sorted_N_bs F19 N22 ⟨_, (N22 _ (List.mem_of_getElem? (i := 3) rfl)).1, rfl, _, rfl⟩ hw1 (nodup_due hok.2.2.2.1) (by omega) fun SA1 hA1 va1 ba1 ea1 FA1 NA1 oA1 hba1 pa1 ra1 => ?_
  rw [sorted_due hs1 pa1 ra1] at hba1
  clear F19 N22 pa1 ra1 oA1
  walk_at "mine stepsw"
  refine sorted_N_bs FA1 NA1 ⟨_, (NA1 _ (List.mem_of_getElem? (i := 5) rfl)).1, rfl, _, rfl⟩ hw0 (nodup_due hok.2.2.1) (by omega) fun SB1 hB1 vb1 bb1 eb1 FB1 NB1 oB1 hbb1 pb1 rb1 => ?_
  rw [sorted_due hs0 pb1 rb1] at hbb1
  clear FA1 NA1 pb1 rb1 oB1
  walk_at "mine stepsw"
  obtain ⟨oL1, esL1, epL1, hoL1, hdL1, _⟩ := id FB1.ns
  refine sld_call (h₀ := s.heap) (L := L) (oL := oL1) (bx := (sortB r1).map due) (bY := (sortB r0).map due) X T FB1.keep (none_at (Nat.le_of_eq hLs)) hoL1 ⟨_, _, hdL1⟩ (by show ScopeKind.function ≠ ScopeKind.module; decide) rfl (by walk_at "mine room") (by walk_at "mine units") ⟨_, (NB1 _ (List.mem_of_getElem? (i := 1) rfl)).1, rfl, _, rfl⟩ ⟨_, (NB1 _ (List.mem_of_getElem? (i := 0) rfl)).1, rfl, _, rfl⟩ hba1 hbb1 (rising_due hs1.2) (rising_due hs0.2) hpos1 hpos0 hle1 hle0 (fun e => hlast e.symm) fun t1 lm1 lu1 vm1 vu1 hC1 tkC1 hkeep1 hsl1 htup1 hlm1 hlu1 hvm1 hvu1 => ?_
  rw [(sld_due hs1 hs0).1] at hvm1
  rw [(sld_due hs1 hs0).2] at hvu1
  have FC1 := fr_but FB1 (ns_slots FB1.ns hoL1 hsl1) hkeep1
  have NC1 := news_tail (news_tail (news_but NB1 hkeep1))
  clear FB1 NB1 hkeep1 hsl1 hoL1 hdL1 hba1 hbb1
  walk_at "mine stepsu"
  refine newTuple_NK FC1 NC1 (fun hF20 F20 N23 hst1 => ?_) (by simp [sizeLine_eq])
  clear FC1 NC1
  walk_at "mine stepsw"
  refine ne_blt (x0 := ((sortB r1).filter fun z => !decide (z ∈ r0)).map due) (x1 := ((sortB r0).filter fun z => !decide (z ∈ r1)).map due) ⟨lm1, lu1, istup_up htup1 hst1, bl_up ⟨_, hlm1, hvm1⟩ hst1, bl_up ⟨_, hlu1, hvu1⟩ hst1⟩ ⟨_, _, ⟨_, (N23 _ (List.mem_of_getElem? (i := 0) rfl)).1, rfl, _, rfl⟩, ⟨_, ⟨_, (N23 _ (List.mem_of_getElem? (i := 1) rfl)).1, rfl, _, rfl⟩, hcome⟩, ⟨_, ⟨_, (N23 _ (List.mem_of_getElem? (i := 2) rfl)).1, rfl, _, rfl⟩, hgone⟩⟩ (by walk_at "mine units") ?_
  clear htup1 hlm1 hlu1 hst1
  have N24 := news_tail N23
  clear N23
  walk_at "mine stepsw"
  refine sorted_N_bs F20 N24 ⟨_, (N24 _ (List.mem_of_getElem? (i := 4) rfl)).1, rfl, _, rfl⟩ hw0 (nodup_due hok.2.2.1) (by omega) fun SA2 hA2 va2 ba2 ea2 FA2 NA2 oA2 hba2 pa2 ra2 => ?_
  rw [sorted_due hs0 pa2 ra2] at hba2
  clear F20 N24 pa2 ra2 oA2
  walk_at "mine stepsw"
  refine sorted_N_bs FA2 NA2 ⟨_, (NA2 _ (List.mem_of_getElem? (i := 4) rfl)).1, rfl, _, rfl⟩ hw1 (nodup_due hok.2.2.2.1) (by omega) fun SB2 hB2 vb2 bb2 eb2 FB2 NB2 oB2 hbb2 pb2 rb2 => ?_
  rw [sorted_due hs1 pb2 rb2] at hbb2
  clear FA2 NA2 pb2 rb2 oB2
  walk_at "mine stepsw"
  obtain ⟨oL2, esL2, epL2, hoL2, hdL2, _⟩ := id FB2.ns
  refine sld_call (h₀ := s.heap) (L := L) (oL := oL2) (bx := (sortB r0).map due) (bY := (sortB r1).map due) X T FB2.keep (none_at (Nat.le_of_eq hLs)) hoL2 ⟨_, _, hdL2⟩ (by show ScopeKind.function ≠ ScopeKind.module; decide) rfl (by walk_at "mine room") (by walk_at "mine units") ⟨_, (NB2 _ (List.mem_of_getElem? (i := 1) rfl)).1, rfl, _, rfl⟩ ⟨_, (NB2 _ (List.mem_of_getElem? (i := 0) rfl)).1, rfl, _, rfl⟩ hba2 hbb2 (rising_due hs0.2) (rising_due hs1.2) hpos0 hpos1 hle0 hle1 hlast fun t2 lm2 lu2 vm2 vu2 hC2 tkC2 hkeep2 hsl2 htup2 hlm2 hlu2 hvm2 hvu2 => ?_
  rw [(sld_due hs0 hs1).1] at hvm2
  rw [(sld_due hs0 hs1).2] at hvu2
  have FC2 := fr_but FB2 (ns_slots FB2.ns hoL2 hsl2) hkeep2
  have NC2 := news_tail (news_tail (news_but NB2 hkeep2))
  clear FB2 NB2 hkeep2 hsl2 hoL2 hdL2 hba2 hbb2
  walk_at "mine stepsu"
  refine newTuple_NK FC2 NC2 (fun hF21 F21 N25 hst2 => ?_) (by simp [sizeLine_eq])
  clear FC2 NC2
  walk_at "mine stepsw"
  refine eq_blt (x0 := ((sortB r0).filter fun z => !decide (z ∈ r1)).map due) (x1 := ((sortB r1).filter fun z => !decide (z ∈ r0)).map due) ⟨lm2, lu2, istup_up htup2 hst2, bl_up ⟨_, hlm2, hvm2⟩ hst2, bl_up ⟨_, hlu2, hvu2⟩ hst2⟩ ⟨_, _, ⟨_, (N25 _ (List.mem_of_getElem? (i := 0) rfl)).1, rfl, _, rfl⟩, ⟨_, ⟨_, (N25 _ (List.mem_of_getElem? (i := 2) rfl)).1, rfl, _, rfl⟩, hgone⟩, ⟨_, ⟨_, (N25 _ (List.mem_of_getElem? (i := 1) rfl)).1, rfl, _, rfl⟩, hcome⟩⟩ (by walk_at "mine units") ?_
  clear htup2 hlm2 hlu2 hst2
  walk_at "mine stepsw"
  exact hQ _ _ F21.keep
end
end
theorem top_off_L2 : True := by (w_top off; trivial)
section
set_option maxRecDepth 100000
set_option maxHeartbeats 8000000 in
theorem law_holds : PySem.Challenge.rw_kq0050_01.Holds := Mine.hd (by
  k_fill
  intro w s₀ s₁ mg mb G Y fa o pm cd doc dV kV ho hd hcd hD hmg hg args vals as hpre hlay hrd hwl hlo
  have KX := kIn_of Y
  have X := (Ground.X G).1
  have V := (Ground.X G).2
  refine Ground.open G ?_
  intro T B D TE TW
  try (refine guard_noD D (by decide +kernel) ?_; clear D)
  wrow_args hpre hlay hrd hwl hlo
  rename IntsAre _ _ => hI
  rename Heap.IsList _ _ _ => hL
  rename ¬ (_ < _) => hlen
  have hm := mg_of (n := Str.ofString "law") (v := .ref 154) KX T.g (by k_dflt k_is)
  have hfa : fa = 154 := by
    have h2 := hmg.symm.trans hm
    injection h2 with h2
    injection h2
  subst hfa
  refine law_call (dp := callerA.depth) (un := callerA.units) (gd := callerA.guards) KX T (by decide) (by decide) hL hI (by omega) fun h' tk hst => ?_
  refine ⟨.inl ⟨_, .bool true, [], rfl, ?g1, .bool true, ?g2, ?g3⟩, .of_keep hst, rfl, .of_eq hg⟩
  case g1 => intro _; rfl
  case g2 => kernel_rfl
  case g3 => intro _; exact ⟨List.nodup_nil, fun _ h => nomatch h⟩)
end
end Mine
theorem PySem.Challenge.cw_kq0050_01_holds : PySem.Challenge.rw_kq0050_01.Holds :=
  Mine.law_holds
