import PyProof.Rows.All
import Wide.All
import OpenK.AllK
import Wide.FinOn
import PySem.Challenge.RW_eh5002_01
set_option Elab.async false

namespace Mine
open PySem PySem.W PyProof.Rows
set_option maxRecDepth 100000 in
set_option maxHeartbeats 8000000 in
open_top hd for PySem.Challenge.rw_eh5002_01
end Mine

namespace Mine
open PySem PySem.W PyProof.Rows PySem.Calls PySem.Spec
set_option maxRecDepth 100000
set_option Elab.async false

structure Cx (w : World) (loose : List Str) (mean : ExcName → Option Value) (mg mb : Str → Option Value) (dp un k : Nat) (cs : Scope) (outer : List Env) (A₀ : Around) (base h₀ : Heap) : Prop where
  B : Below A₀ base outer h₀
  X : (Mine.hd.heap_39 w.params).In h₀
  T : Top Mine.hd.view_39 loose mean mg mb h₀
  hk : cs.kind = .function
  hd : dp + k < recursionLimit
  hu : un + 8 * k < cLine

structure StInv (ns : List Int) (cur seed : Int) : Prop where
  c0 : 0 ≤ cur
  c1 : cur < 2147483648
  s0 : 0 ≤ seed
  s1 : seed < 2147483648
  q0 : ∀ x ∈ ns, 0 ≤ x ∧ x < 2147483648
  q1 : ns.length ≤ 30

theorem fdivE (a : Int) {b : Int} (h : 0 < b) : Int.fdiv a b = a / b := Int.fdiv_eq_ediv_of_nonneg a (by omega)
theorem fmodE (a : Int) {b : Int} (h : 0 < b) : Int.fmod a b = a % b := Int.fmod_eq_emod_of_nonneg a (by omega)

theorem StInv.next {ns : List Int} {cur seed many : Int} (h : StInv ns cur seed) (hm : 0 < many) : StInv ns (cur.fdiv many) seed := by
  obtain ⟨a, b, c, d, e, f⟩ := h
  rw [fdivE _ hm] 
  refine ⟨Int.ediv_nonneg a (by omega), ?_, c, d, e, f⟩
  have := Int.ediv_le_self many a
  omega

section
variable {prog : Program} {w : World} {A : Around} {E : Value → Shared → Prop} {s : Shared} {h₀ : Heap} {L D : Addr} {m : Str → Option Value} {news news' : List (Addr × Obj)}
theorem pop0 {v : Value} {vs : List Value} {n : Nat} {t : Tok} {Q : Value → Shared → Prop} (F : Fr h₀ L s.heap m) (N : News h₀ L s.heap news)
    (U : Upd D (W.listOf (v :: vs).toArray n) (W.listOf vs.toArray (n + 1)) news news') (hz : vs.length < 1000)
    (h : ∀ h', Fr h₀ L h' m → News h₀ L h' news' → Q v { s with heap := h' }) : wpAny (model prog w) A (call (.builtin "list.pop") [.ref D, .int 0 t]) Q E s :=
  kl_popAt F N (i := 0) (u := t) (k := 0) (p := []) (q := vs) (y := v) rfl (by simp [seqIndex?]) rfl U (by rw [PySem.sizeLine_eq]; simp only [List.length_cons]; omega) h
end

/-- a place where the walk is to wait -/
def Hold (P : Prop) : Prop := P
theorem hold {P : Prop} (h : Hold P) : P := h
theorem Fr.congr {h₀ h : Heap} {L : Addr} {m m' : Str → Option Value} (F : Fr h₀ L h m) (e : ∀ y, m y = m' y) : Fr h₀ L h m' := (funext e : m = m') ▸ F

theorem lookE (y x : Str) (v : Value) (r : List (Str × Value)) : List.lookup y ((x, v) :: r) = if y = x then some v else List.lookup y r := by
  rw [List.lookup_cons]
  by_cases h : y = x
  · subst h; simp
  · rw [if_neg h]
    have : (y == x) = false := by simpa using h
    rw [this]

theorem look1 (y x : Str) (v : Value) : List.lookup y [(x, v)] = if y = x then some v else none := lookE y x v []
theorem look2 (y x x2 : Str) (v v2 : Value) : List.lookup y [(x, v), (x2, v2)] = if y = x then some v else if y = x2 then some v2 else none := by rw [lookE, look1]
theorem look3 (y x x2 x3 : Str) (v v2 v3 : Value) : List.lookup y [(x, v), (x2, v2), (x3, v3)] = if y = x then some v else if y = x2 then some v2 else if y = x3 then some v3 else none := by rw [lookE, look2]
theorem look4 (y x x2 x3 x4 : Str) (v v2 v3 v4 : Value) : List.lookup y [(x, v), (x2, v2), (x3, v3), (x4, v4)] = if y = x then some v else if y = x2 then some v2 else if y = x3 then some v3 else if y = x4 then some v4 else none := by rw [lookE, look3]
theorem look5 (y x x2 x3 x4 x5 : Str) (v v2 v3 v4 v5 : Value) : List.lookup y [(x, v), (x2, v2), (x3, v3), (x4, v4), (x5, v5)] = if y = x then some v else if y = x2 then some v2 else if y = x3 then some v3 else if y = x4 then some v4 else if y = x5 then some v5 else none := by rw [lookE, look4]

theorem putE {m m' : Str → Option Value} {x : Str} {v : Value} (e : m x = some v) (h : ∀ y, m y = m' y) : ∀ y, m y = if y = x then some v else m' y := fun y => by
  by_cases q : y = x
  · subst q; rw [if_pos rfl, e]
  · rw [if_neg q, h]
theorem Fr.put {h₀ h : Heap} {L : Addr} {m : Str → Option Value} {x : Str} {v : Value} (F : Fr h₀ L h m) (e : m x = some v) : Fr h₀ L h (fun y => if y = x then some v else m y) :=
  Fr.congr F (putE e fun _ => rfl)
theorem Fr.put2 {h₀ h : Heap} {L : Addr} {m : Str → Option Value} {x x2 : Str} {v v2 : Value} (F : Fr h₀ L h m) (e : m x = some v) (e2 : m x2 = some v2) : Fr h₀ L h (fun y => if y = x then some v else if y = x2 then some v2 else m y) :=
  Fr.congr F (putE e (putE e2 fun _ => rfl))
theorem Fr.put3 {h₀ h : Heap} {L : Addr} {m : Str → Option Value} {x x2 x3 : Str} {v v2 v3 : Value} (F : Fr h₀ L h m) (e : m x = some v) (e2 : m x2 = some v2) (e3 : m x3 = some v3) : Fr h₀ L h (fun y => if y = x then some v else if y = x2 then some v2 else if y = x3 then some v3 else m y) :=
  Fr.congr F (putE e (putE e2 (putE e3 fun _ => rfl)))
theorem Fr.put4 {h₀ h : Heap} {L : Addr} {m : Str → Option Value} {x x2 x3 x4 : Str} {v v2 v3 v4 : Value} (F : Fr h₀ L h m) (e : m x = some v) (e2 : m x2 = some v2) (e3 : m x3 = some v3) (e4 : m x4 = some v4) : Fr h₀ L h (fun y => if y = x then some v else if y = x2 then some v2 else if y = x3 then some v3 else if y = x4 then some v4 else m y) :=
  Fr.congr F (putE e (putE e2 (putE e3 (putE e4 fun _ => rfl))))
theorem Fr.put5 {h₀ h : Heap} {L : Addr} {m : Str → Option Value} {x x2 x3 x4 x5 : Str} {v v2 v3 v4 v5 : Value} (F : Fr h₀ L h m) (e : m x = some v) (e2 : m x2 = some v2) (e3 : m x3 = some v3) (e4 : m x4 = some v4) (e5 : m x5 = some v5) : Fr h₀ L h (fun y => if y = x then some v else if y = x2 then some v2 else if y = x3 then some v3 else if y = x4 then some v4 else if y = x5 then some v5 else m y) :=
  Fr.congr F (putE e (putE e2 (putE e3 (putE e4 (putE e5 fun _ => rfl)))))
theorem Fr.put6 {h₀ h : Heap} {L : Addr} {m : Str → Option Value} {x x2 x3 x4 x5 x6 : Str} {v v2 v3 v4 v5 v6 : Value} (F : Fr h₀ L h m) (e : m x = some v) (e2 : m x2 = some v2) (e3 : m x3 = some v3) (e4 : m x4 = some v4) (e5 : m x5 = some v5) (e6 : m x6 = some v6) : Fr h₀ L h (fun y => if y = x then some v else if y = x2 then some v2 else if y = x3 then some v3 else if y = x4 then some v4 else if y = x5 then some v5 else if y = x6 then some v6 else m y) :=
  Fr.congr F (putE e (putE e2 (putE e3 (putE e4 (putE e5 (putE e6 fun _ => rfl))))))

theorem sub01 {a b : Addr × Obj} {r : List (Addr × Obj)} : ∀ p ∈ a :: r, p ∈ a :: b :: r := fun _ h => by
  cases h with
  | head => exact .head _
  | tail _ h => exact .tail _ (.tail _ h)
theorem sub02 {a b c : Addr × Obj} {r : List (Addr × Obj)} : ∀ p ∈ a :: r, p ∈ a :: b :: c :: r := fun _ h => by
  cases h with
  | head => exact .head _
  | tail _ h => exact .tail _ (.tail _ (.tail _ h))
theorem sub04 {a b c d e : Addr × Obj} {r : List (Addr × Obj)} : ∀ p ∈ a :: r, p ∈ a :: b :: c :: d :: e :: r := fun _ h => by
  cases h with
  | head => exact .head _
  | tail _ h => exact .tail _ (.tail _ (.tail _ (.tail _ (.tail _ h))))
theorem sub1 {a : Addr × Obj} {r : List (Addr × Obj)} : ∀ p ∈ r, p ∈ a :: r := fun _ h => .tail _ h
theorem sub2 {a b : Addr × Obj} {r : List (Addr × Obj)} : ∀ p ∈ r, p ∈ a :: b :: r := fun _ h => .tail _ (.tail _ h)
theorem sub3 {a b c : Addr × Obj} {r : List (Addr × Obj)} : ∀ p ∈ r, p ∈ a :: b :: c :: r := fun _ h => .tail _ (.tail _ (.tail _ h))

/-- base 128, as the law writes it -/
def baseGo (n : Int) (row : List Int) : List Int := if 0 < n then baseGo (n / 128) ((128 + n % 128) :: row) else row
termination_by n.toNat
decreasing_by omega
def lawBase (n : Int) : List Int := baseGo (n / 128) [n % 128]
def digGo (n : Int) (row : List Int) : List Int := if 0 < n then digGo (n / 256) (n % 256 :: row) else row
termination_by n.toNat
decreasing_by omega
def lawLen (n : Int) : List Int := if n < 128 then [n] else (128 + (digGo n []).length) :: digGo n []
def lawHdr (g m t n : Int) : List Int := if t < 31 then (64 * g + 32 * m + t) :: lawLen n else (64 * g + 32 * m + 31) :: (lawBase t ++ lawLen n)
def oct (x : Int) : UInt8 := UInt8.ofNat x.toNat
def octs (l : List Int) : Array UInt8 := (l.map oct).toArray

theorem baseGo_pos {n : Int} {row : List Int} (h : 0 < n) : baseGo n row = baseGo (n / 128) ((128 + n % 128) :: row) := by rw [baseGo, if_pos h]
theorem baseGo_end {n : Int} {row : List Int} (h : ¬ 0 < n) : baseGo n row = row := by rw [baseGo, if_neg h]
theorem digGo_pos {n : Int} {row : List Int} (h : 0 < n) : digGo n row = digGo (n / 256) ((n % 256) :: row) := by rw [digGo, if_pos h]
theorem digGo_end {n : Int} {row : List Int} (h : ¬ 0 < n) : digGo n row = row := by rw [digGo, if_neg h]

theorem dig_fold : ∀ (k : Nat) (n : Int) (row : List Int), n.toNat ≤ k → 0 ≤ n → (digGo n row).foldl (fun a k => a * 256 + k) 0 = row.foldl (fun a k => a * 256 + k) n := by
  intro k
  induction k with
  | zero =>
    intro n row h0 h1
    have : n = 0 := by omega
    subst this
    rw [digGo_end (by omega)]
  | succ k ih =>
    intro n row h0 h1
    by_cases hn : 0 < n
    · rw [digGo_pos hn, ih _ _ (by omega) (by omega), List.foldl_cons]
      have e : n / 256 * 256 + n % 256 = n := by omega
      rw [e]
    · have : n = 0 := by omega
      subst this
      rw [digGo_end (by omega)]
theorem dig_value {n : Int} (h : 0 ≤ n) : KFB.value (digGo n []) = n := by
  unfold KFB.value
  rw [dig_fold _ n [] (Nat.le_refl _) h]
  rfl

theorem id_key : ∀ g : Fin 4, ∀ me : Fin 2, ∀ x : Fin 32, Builtin.bitOr (Builtin.bitOr (Builtin.bitOr 0 (((g.val : Nat) : Int) * 2 ^ Int.toNat 6)) (((me.val : Nat) : Int) * 2 ^ Int.toNat 5)) ((x.val : Nat) : Int) = 64 * ((g.val : Nat) : Int) + 32 * ((me.val : Nat) : Int) + ((x.val : Nat) : Int) := by decide +kernel
theorem id_or {g me x : Int} (hg0 : 0 ≤ g) (hg1 : g < 4) (hm0 : 0 ≤ me) (hm1 : me < 2) (h0 : 0 ≤ x) (h1 : x < 32) : Builtin.bitOr (Builtin.bitOr (Builtin.bitOr 0 (g * 2 ^ Int.toNat 6)) (me * 2 ^ Int.toNat 5)) x = 64 * g + 32 * me + x := by
  obtain ⟨g, rfl⟩ := Int.eq_ofNat_of_zero_le hg0
  obtain ⟨me, rfl⟩ := Int.eq_ofNat_of_zero_le hm0
  obtain ⟨x, rfl⟩ := Int.eq_ofNat_of_zero_le h0
  exact id_key ⟨g, by omega⟩ ⟨me, by omega⟩ ⟨x, by omega⟩
theorem or_key : ∀ x : Fin 128, Builtin.bitOr 128 ((x.val : Nat) : Int) = 128 + ((x.val : Nat) : Int) ∧ Builtin.bitOr 0 ((x.val : Nat) : Int) = ((x.val : Nat) : Int) := by decide +kernel
theorem or_128 {x : Int} (h0 : 0 ≤ x) (h1 : x < 128) : Builtin.bitOr 128 x = 128 + x := by
  obtain ⟨x, rfl⟩ := Int.eq_ofNat_of_zero_le h0
  exact (or_key ⟨x, by omega⟩).1
theorem or_0 {x : Int} (h0 : 0 ≤ x) (h1 : x < 128) : Builtin.bitOr 0 x = x := by
  obtain ⟨x, rfl⟩ := Int.eq_ofNat_of_zero_le h0
  exact (or_key ⟨x, by omega⟩).2
theorem and_127 (x : Int) : Builtin.bitAnd x 127 = x % 128 := kbt_mask x 7
theorem low7 (x : Int) : 0 ≤ x % 128 ∧ x % 128 < 128 := by omega
theorem or_128m (x : Int) : Builtin.bitOr 128 (Builtin.bitAnd x 127) = 128 + x % 128 := by rw [and_127]; exact or_128 (low7 x).1 (low7 x).2
theorem or_0m (x : Int) : Builtin.bitOr 0 (Builtin.bitAnd x 127) = x % 128 := by rw [and_127]; exact or_0 (low7 x).1 (low7 x).2
theorem octs_append (a b : List Int) : octs a ++ octs b = octs (a ++ b) := by unfold octs; rw [List.map_append, List.append_toArray]
theorem octs_size (a : List Int) : (octs a).size = a.length := by unfold octs; rw [List.size_toArray, List.length_map]

/-- the reader's loop over a tag's octets -/
def scan (t : Int) : List Int → Option (Int × List Int)
  | [] => none
  | d :: ds => if d = 128 ∧ t = 0 then none else if d / 128 = 0 then some (t * 128 + d % 128, ds) else scan (t * 128 + d % 128) ds

theorem scan_go (t : Int) (rest : List Int) : ∀ (k : Nat) (n : Int) (row : List Int), n.toNat ≤ k → 0 ≤ n → scan n (row ++ rest) = some (t, rest) → scan 0 (baseGo n row ++ rest) = some (t, rest) := by
  intro k
  induction k with
  | zero =>
    intro n row h0 h1 h
    have : n = 0 := by omega
    subst this
    rw [baseGo_end (by omega)]; exact h
  | succ k ih =>
    intro n row h0 h1 h
    by_cases hn : 0 < n
    · rw [baseGo_pos hn]
      refine ih _ _ (by omega) (by omega) ?_
      have e : n / 128 * 128 + (128 + n % 128) % 128 = n := by omega
      rw [List.cons_append, scan, if_neg (by omega), if_neg (by omega), e]
      exact h
    · rw [baseGo_end hn]
      have : n = 0 := by omega
      subst this
      exact h
theorem scan_base {t : Int} (rest : List Int) (h : 0 ≤ t) : scan 0 (lawBase t ++ rest) = some (t, rest) := by
  refine scan_go t rest _ _ _ (Nat.le_refl _) (by omega) ?_
  have e : t / 128 * 128 + t % 128 % 128 = t := by omega
  rw [List.cons_append, List.nil_append, scan, if_neg (by omega), if_pos (by omega), e]

end Mine

namespace Mine
open PySem PySem.W PyProof.Rows PySem.Calls PySem.Spec
set_option maxRecDepth 100000
set_option Elab.async false
section
variable {w : World} {loose : List Str} {mean : ExcName → Option Value} {mg mb : Str → Option Value} {dp un : Nat} {gd : Option (List Code)} {cn : Str} {cs : Scope} {a : Addr} {ccd : Value} {cl : List (Str × Addr)} {outer : List Env} {A₀ : Around} {base h₀ : Heap} {L : Addr} {m : Str → Option Value} {s : Shared} {Q E : Value → Shared → Prop} {rest : List (Addr × Obj)}

local macro_rules | `(tactic| walk_at "call builtin:list.pop") => `(tactic| (k_here; k_dflt (refine' Mine.pop0 ?F ?N ?U ?z ?_; (case F => k_asm); (case N => k_asm); (case U => k_upd); (case z => omega)); intro h' F' N'; (try dsimp only [List.nil_append, List.cons_append] at N')))

set_option maxHeartbeats 8000000 in
theorem take_ct {S r : Addr} {cur seed many : Int} {tc ts tm : Tok} {n n' : Nat} {vs : List Value} {ns : List Int}
    (C : Cx w loose mean mg mb dp un 1 cs outer A₀ base h₀) (F : Fr h₀ L s.heap m)
    (N : News h₀ L s.heap ((S, W.listOf #[.ref r, .int cur tc, .int seed ts, .bool true] n) :: (r, W.listOf vs.toArray n') :: rest))
    (hI : IntsAre vs ns) (hoff : OwnOff rest [S, r]) (hSr : @Ne Nat S r) (hinv : StInv ns cur seed) (hm : 0 < many) (hm2 : many ≤ 256)
    (hret : ∀ (v : Int) (tv : Tok) (cur' seed' : Int) (tc' ts' : Tok) (n₁ n₁' : Nat) (vs' : List Value) (ns' : List Int) (h' : Heap) (tk' : Nat), 0 ≤ v → v < many → IntsAre vs' ns' → StInv ns' cur' seed' →
      Fr h₀ L h' m → News h₀ L h' ((S, W.listOf #[.ref r, .int cur' tc', .int seed' ts', .bool true] n₁) :: (r, W.listOf vs'.toArray n₁') :: rest) → Q (.int v tv) { s with heap := h', toks := tk' }) :
    wpAny (model PySem.Challenge.rw_eh5002_01.row.prog w) (ktrTop dp un gd cn cs L a ccd cl outer) (call (.ref 66) [.ref S, .int many tm]) Q E s := by
  obtain ⟨B, X, T, hk, hd, hu⟩ := C
  have hinv' := hinv
  obtain ⟨c0, c1, s0, s1, q0, q1⟩ := hinv'
  have seed1 : 0 ≤ Int.fmod (seed * 48271 + 11) 2147483647 ∧ Int.fmod (seed * 48271 + 11) 2147483647 < 2147483648 := by
    rw [fmodE _ (by decide)]; omega
  revert X; k_fill; intro X
  have hC := cLine_is
  have hm0 : many ≠ 0 := by omega
  cases hI with
  | nil =>
    refine wpAny_call ?_
    k_dflt ktr_enter
    k_steps
    · refine hret _ _ _ _ _ _ _ _ [] [] _ _ (fmod_lo _ hm) (fmod_hi _ hm) .nil (StInv.next ⟨seed1.1, seed1.2, seed1.1, seed1.2, q0, q1⟩ hm) (by assumption) (by assumption)
    · refine hret _ _ _ _ _ _ _ _ [] [] _ _ (fmod_lo _ hm) (fmod_hi _ hm) .nil (StInv.next hinv hm) (by assumption) (by assumption)
  | cons i t hI' =>
    simp only [List.length_cons] at q1
    have q0' := q0 i (.head _)
    obtain ⟨q2, q3⟩ := q0'
    have hlen := IntsAre.length hI'
    refine wpAny_call ?_
    k_dflt ktr_enter
    k_steps
    · refine hret _ _ _ _ _ _ _ _ _ _ _ _ (fmod_lo _ hm) (fmod_hi _ hm) hI' (StInv.next ⟨q2, q3, s0, s1, fun x hx => q0 x (.tail _ hx), by omega⟩ hm) (by assumption) (by assumption)
    · refine hret _ _ _ _ _ _ _ _ _ _ _ _ (fmod_lo _ hm) (fmod_hi _ hm) (.cons _ _ hI') (StInv.next hinv hm) (by assumption) (by assumption)
end
end Mine

namespace Mine
open PySem PySem.W PyProof.Rows PySem.Calls PySem.Spec
set_option maxRecDepth 100000
set_option Elab.async false
local macro_rules | `(tactic| walk_at "pad 0") => `(tactic| skip)
section
variable {w : World} {loose : List Str} {mean : ExcName → Option Value} {mg mb : Str → Option Value} {dp un : Nat} {gd : Option (List Code)} {cn : Str} {cs : Scope} {a : Addr} {ccd : Value} {cl : List (Str × Addr)} {outer : List Env} {A₀ : Around} {base h₀ : Heap} {L : Addr} {m : Str → Option Value} {s : Shared} {Q E : Value → Shared → Prop} {rest : List (Addr × Obj)}

local macro_rules | `(tactic| walk_at "exec While Compare cons nil") => `(tactic| (refine Mine.hold ?_))

def J73 (t : Int) (rest : List (Addr × Obj)) (n : Nat) (m : Str → Option Value) (news : List (Addr × Obj)) : Prop :=
  ∃ (x : Int) (tx : Tok) (l : Addr) (us : List Value) (k : Nat) (row : List Int),
    m (Str.ofString "number") = some (.int x tx) ∧ m (Str.ofString "row") = some (.ref l) ∧
    news = (l, W.listOf us.toArray k) :: rest ∧ IntsAre us row ∧ baseGo x row = lawBase t ∧ 0 ≤ x ∧ n = x.toNat ∧ x < 2 ^ (210 - 7 * row.length) ∧ 1 ≤ row.length ∧ row.length ≤ 30

set_option maxHeartbeats 8000000 in
theorem base_ct {t : Int} {tt : Tok}
    (C : Cx w loose mean mg mb dp un 1 cs outer A₀ base h₀) (F : Fr h₀ L s.heap m) (N : News h₀ L s.heap rest)
    (h0 : 0 ≤ t) (h1 : t < 2 ^ 200)
    (hret : ∀ (l : Addr) (us : List Value) (k : Nat) (h' : Heap) (tk' : Nat), IntsAre us (lawBase t) → (lawBase t).length ≤ 30 →
      Fr h₀ L h' m → News h₀ L h' ((l, W.listOf us.toArray k) :: rest) → Q (.ref l) { s with heap := h', toks := tk' }) :
    wpAny (model PySem.Challenge.rw_eh5002_01.row.prog w) (ktrTop dp un gd cn cs L a ccd cl outer) (call (.ref 73) [.int t tt]) Q E s := by
  obtain ⟨B, X, T, hk, hd, hu⟩ := C
  revert X; k_fill; intro X
  have hC := cLine_is
  refine wpAny_call ?_
  k_dflt ktr_enter
  rename Fr _ _ _ _ => F1
  have F2 := Fr.congr F1 (fun y => look1 y (Str.ofString "number") _)
  clear F1
  k_steps
  rename Fr _ _ _ _ => F1
  rename News _ _ _ _ => N1
  refine While_inv2 (J73 t rest) (n₀ := (t / 128).toNat) F1 N1 ⟨t.fdiv 128, _, _, [_], _, [t.fmod 128], rfl, rfl, rfl, .cons _ _ .nil, ?_, ?_, ?_, ?_, ?_, ?_⟩ ?_
  · rw [fdivE _ (by decide), fmodE _ (by decide)]; rfl
  · rw [fdivE _ (by decide)]; omega
  · rw [fdivE _ (by decide)]
  · rw [fdivE _ (by decide)]
    simp only [List.length_cons, List.length_nil]
    omega
  · simp
  · simp
  intro n m₁ news₁ h₁ tk₁ F₂ N₂ ⟨x, tx, l, us, k, row, em1, em2, en, hI, hgo, hx0, hn, hb, hl1, hl2⟩
  subst en
  replace F₂ := Fr.put2 F₂ em1 em2
  have hlen := IntsAre.length hI
  clear F1 N1
  k_steps
  · rename IntsAre _ _ => hI'
    rename 0 < x => hx
    have e1 := fdivE x (show (0:Int) < 128 by decide)
    have e2 := fmodE x (show (0:Int) < 128 by decide)
    have hlt : row.length < 30 := by
      by_cases q : row.length = 30
      · rw [q] at hb
        simp only [Nat.reduceMul, Nat.reduceSub, Int.pow_zero] at hb
        omega
      · omega
    refine ⟨_, _, _, _, (x / 128).toNat, rfl, by assumption, cb_drop (by assumption) sub02, by omega, x.fdiv 128, _, _, _, _, _, rfl, rfl, rfl, hI', ?_, ?_, ?_, ?_, ?_, ?_⟩
    · rw [e1, e2, ← hgo, baseGo_pos hx]; rfl
    · rw [e1]; omega
    · rw [e1]
    · rw [e1]
      have p : 210 - 7 * row.length = (210 - 7 * ([128 + x.fmod 128] ++ row).length) + 7 := by
        simp only [List.length_append, List.length_cons, List.length_nil]; omega
      rw [p, Int.pow_add] at hb
      generalize (2:Int) ^ (210 - 7 * ([128 + x.fmod 128] ++ row).length) = z at *
      omega
    · simp only [List.length_append, List.length_cons, List.length_nil]; omega
    · simp only [List.length_append, List.length_cons, List.length_nil]; omega
  · rename ¬ 0 < x => hx
    rw [baseGo_end hx] at hgo
    subst hgo
    exact hret l us k _ _ hI hl2 (by assumption) (by assumption)
end
end Mine

namespace Mine
open PySem PySem.W PyProof.Rows PySem.Calls PySem.Spec
set_option maxRecDepth 100000
set_option Elab.async false
local macro_rules | `(tactic| walk_at "pad 0") => `(tactic| skip)
local macro_rules | `(tactic| walk_at "pad 1") => `(tactic| skip)
section
variable {w : World} {loose : List Str} {mean : ExcName → Option Value} {mg mb : Str → Option Value} {dp un : Nat} {gd : Option (List Code)} {cn : Str} {cs : Scope} {a : Addr} {ccd : Value} {cl : List (Str × Addr)} {outer : List Env} {A₀ : Around} {base h₀ : Heap} {L : Addr} {m : Str → Option Value} {s : Shared} {Q E : Value → Shared → Prop} {rest : List (Addr × Obj)}

local macro_rules | `(tactic| walk_at "exec While Compare cons nil") => `(tactic| (refine Mine.hold ?_))

def J80 (t : Int) (rest : List (Addr × Obj)) (n : Nat) (m : Str → Option Value) (news : List (Addr × Obj)) : Prop :=
  ∃ (x : Int) (tx : Tok) (l : Addr) (us : List Value) (k : Nat) (row : List Int),
    m (Str.ofString "size") = some (.int x tx) ∧ m (Str.ofString "digits") = some (.ref l) ∧
    news = (l, W.listOf us.toArray k) :: rest ∧ IntsAre us row ∧ digGo x row = digGo t [] ∧ 0 ≤ x ∧ n = x.toNat ∧ x < 2 ^ (32 - 8 * row.length) ∧ row.length ≤ 4

set_option maxHeartbeats 8000000 in
theorem len_ct {t : Int} {tt : Tok}
    (C : Cx w loose mean mg mb dp un 1 cs outer A₀ base h₀) (F : Fr h₀ L s.heap m) (N : News h₀ L s.heap rest)
    (h0 : 0 ≤ t) (h1 : t < 2 ^ 32)
    (hret : ∀ (l : Addr) (us : List Value) (k : Nat) (h' : Heap) (tk' : Nat), IntsAre us (lawLen t) → (lawLen t).length ≤ 5 →
      Fr h₀ L h' m → News h₀ L h' ((l, W.listOf us.toArray k) :: rest) → Q (.ref l) { s with heap := h', toks := tk' }) :
    wpAny (model PySem.Challenge.rw_eh5002_01.row.prog w) (ktrTop dp un gd cn cs L a ccd cl outer) (call (.ref 80) [.int t tt]) Q E s := by
  obtain ⟨B, X, T, hk, hd, hu⟩ := C
  revert X; k_fill; intro X
  have hC := cLine_is
  refine wpAny_call ?_
  k_dflt ktr_enter
  rename Fr _ _ _ _ => F1
  have F2 := Fr.congr F1 (fun y => look1 y (Str.ofString "size") _)
  clear F1
  k_steps
  · rename t < 128 => hx
    have e : lawLen t = [t] := by unfold lawLen; rw [if_pos hx]
    refine hret _ [_] _ _ _ ?_ ?_ (by assumption) (by assumption)
    · rw [e]; exact .cons _ _ .nil
    · rw [e]; simp
  rename ¬ t < 128 => hx128
  rename Fr _ _ _ _ => F1
  rename News _ _ _ _ => N1
  refine While_inv2 (J80 t rest) (n₀ := t.toNat) F1 N1 ⟨t, _, _, [], _, [], rfl, rfl, rfl, .nil, rfl, h0, rfl, ?_, ?_⟩ ?_
  · exact h1
  · simp
  intro n m₁ news₁ h₁ tk₁ F₂ N₂ ⟨x, tx, l, us, k, row, em1, em2, en, hI, hgo, hx0, hn, hb, hl2⟩
  subst en
  replace F₂ := Fr.put2 F₂ em1 em2
  have hlen := IntsAre.length hI
  clear F1 N1
  k_steps
  · rename IntsAre _ _ => hI'
    rename 0 < x => hx
    have e1 := fdivE x (show (0:Int) < 256 by decide)
    have e2 := fmodE x (show (0:Int) < 256 by decide)
    have hlt : row.length < 4 := by
      by_cases q : row.length = 4
      · rw [q] at hb
        simp only [Nat.reduceMul, Nat.reduceSub, Int.pow_zero] at hb
        omega
      · omega
    refine ⟨_, _, _, _, (x / 256).toNat, rfl, by assumption, cb_drop (by assumption) sub02, by omega, x.fdiv 256, _, _, _, _, _, rfl, rfl, rfl, hI', ?_, ?_, ?_, ?_, ?_⟩
    · rw [e1, e2, ← hgo, digGo_pos hx]; rfl
    · rw [e1]; omega
    · rw [e1]
    · rw [e1]
      have p : 32 - 8 * row.length = (32 - 8 * ([x.fmod 256] ++ row).length) + 8 := by
        simp only [List.length_append, List.length_cons, List.length_nil]; omega
      rw [p, Int.pow_add] at hb
      generalize (2:Int) ^ (32 - 8 * ([x.fmod 256] ++ row).length) = z at *
      omega
    · simp only [List.length_append, List.length_cons, List.length_nil]; omega
  · rename ¬ 0 < x => hx
    rename IntsAre _ _ => hI'
    rw [digGo_end hx] at hgo
    subst hgo
    have e : lawLen t = [128 + ((digGo t []).length : Int)] ++ digGo t [] := by unfold lawLen; rw [if_neg hx128]; rfl
    refine hret _ _ _ _ _ ?_ ?_ (by assumption) (cb_drop (by assumption) sub02)
    · rw [e]; exact hI'
    · rw [e]; simp only [List.length_append, List.length_cons, List.length_nil]; omega
end
end Mine

namespace Mine
open PySem PySem.W PyProof.Rows PySem.Calls PySem.Spec
set_option maxRecDepth 100000
set_option Elab.async false
local macro_rules | `(tactic| walk_at "pad 0") => `(tactic| skip)
local macro_rules | `(tactic| walk_at "pad 1") => `(tactic| skip)
section
variable {w : World} {loose : List Str} {mean : ExcName → Option Value} {mg mb : Str → Option Value} {dp un : Nat} {gd : Option (List Code)} {cn : Str} {cs : Scope} {a : Addr} {ccd : Value} {cl : List (Str × Addr)} {outer : List Env} {A₀ : Around} {base h₀ : Heap} {L : Addr} {m : Str → Option Value} {s : Shared} {Q E : Value → Shared → Prop} {rest : List (Addr × Obj)}

local macro_rules | `(tactic| walk_at "call ref") => `(tactic| (k_here; (with_reducible show wpAny _ _ (call (Value.ref 73) _) _ _ _); (with_unfolding_all refine' Mine.base_ct ?C ?F ?N ?h0 ?h1 ?_); (case C => exact ⟨by k_asm, by k_asm, by k_asm, by first | exact rfl | assumption, by first | omega | ktr_room, by first | omega | ktr_units⟩); (case F => k_asm); (case N => k_asm); (case h0 => first | assumption | omega); (case h1 => first | assumption | omega); intro l' us' k' h' tk' hI' hlen' F' N'; (try dsimp only); (try k_fold); (try k_sweep)))
local macro_rules | `(tactic| walk_at "call ref") => `(tactic| (k_here; (with_reducible show wpAny _ _ (call (Value.ref 80) _) _ _ _); (with_unfolding_all refine' Mine.len_ct ?C ?F ?N ?h0 ?h1 ?_); (case C => exact ⟨by k_asm, by k_asm, by k_asm, by first | exact rfl | assumption, by first | omega | ktr_room, by first | omega | ktr_units⟩); (case F => k_asm); (case N => k_asm); (case h0 => first | assumption | omega); (case h1 => first | assumption | omega); intro l' us' k' h' tk' hI' hlen' F' N'; (try dsimp only); (try k_fold); (try k_sweep)))

set_option maxHeartbeats 8000000 in
theorem hdr_ct {g me t n : Int} {t1 t2 t3 t4 : Tok}
    (C : Cx w loose mean mg mb dp un 2 cs outer A₀ base h₀) (F : Fr h₀ L s.heap m) (N : News h₀ L s.heap rest)
    (h0 : 0 ≤ t) (h1 : t < 2 ^ 200) (h2 : 0 ≤ n) (h3 : n < 2 ^ 32)
    (hret : ∀ (l : Addr) (us : List Value) (k : Nat) (h' : Heap) (tk' : Nat), IntsAre us (lawHdr g me t n) → (lawHdr g me t n).length ≤ 40 →
      Fr h₀ L h' m → News h₀ L h' ((l, W.listOf us.toArray k) :: rest) → Q (.ref l) { s with heap := h', toks := tk' }) :
    wpAny (model PySem.Challenge.rw_eh5002_01.row.prog w) (ktrTop dp un gd cn cs L a ccd cl outer) (call (.ref 87) [.int g t1, .int me t2, .int t t3, .int n t4]) Q E s := by
  obtain ⟨B, X, T, hk, hd, hu⟩ := C
  revert X; k_fill; intro X
  have hC := cLine_is
  refine wpAny_call ?_
  k_dflt ktr_enter
  rename Fr _ _ _ _ => F1
  have F2 := Fr.congr F1 (fun y => look4 y (Str.ofString "size") (Str.ofString "tag") (Str.ofString "method") (Str.ofString "group") _ _ _ _)
  clear F1
  k_steps
  · rename t < 31 => ht
    rename IntsAre _ _ => hI'
    rename (lawLen _).length ≤ 5 => hL
    have e : lawHdr g me t n = [64 * g + 32 * me + t] ++ lawLen n := by unfold lawHdr; rw [if_pos ht]; rfl
    refine hret _ _ _ _ _ ?_ ?_ (by assumption) (cb_drop (by assumption) sub02)
    · rw [e]; exact hI'
    · rw [e]; simp only [List.length_append, List.length_cons, List.length_nil]; omega
  · rename ¬ t < 31 => ht
    rename IntsAre _ _ => hI'
    rename (lawLen _).length ≤ 5 => hL
    rename (lawBase _).length ≤ 30 => hL2
    have e : lawHdr g me t n = [64 * g + 32 * me + 31] ++ lawBase t ++ lawLen n := by unfold lawHdr; rw [if_neg ht]; rfl
    refine hret _ _ _ _ _ ?_ ?_ (by assumption) (cb_drop (by assumption) sub04)
    · rw [e]; exact hI'
    · rw [e]; simp only [List.length_append, List.length_cons, List.length_nil]; omega
end
end Mine

namespace Mine
open PySem PySem.W PyProof.Rows PySem.Calls PySem.Spec PySem.Builtin.Int
set_option maxRecDepth 100000
set_option Elab.async false
local macro_rules | `(tactic| walk_at "pad 0") => `(tactic| skip)
local macro_rules | `(tactic| walk_at "pad 1") => `(tactic| skip)
local macro_rules | `(tactic| walk_at "pad 2") => `(tactic| skip)

section
variable {prog : Program} {w : World} {M : Model} {A : Around} {E : Value → Shared → Prop} {s : Shared} {env : Env}
theorem cw_kw {pos : Pos} {id : String} {first : List Value} {e : Expr} {rest : List Expr} {kws : List Keyword} {Q : Value → Shared → Prop}
    (h : wpAny M A (spliced (backTo pos (starEach (e :: rest) env))) (fun vs s₁ => wpAny M A (evalAll ((backToKw pos (keywordEach kws env)).map (·.2)))
      (fun kvs s₂ => wpAny M A (call (.builtin id) (first ++ vs) (((backToKw pos (keywordEach kws env)).filterMap (·.1)).zip kvs)) Q E s₂) E s₁) E s)
    (he : backTo pos (starEach (e :: rest) env) = (false, eval e env) :: backTo pos (starEach rest env) := by rfl)
    (hplain : (backTo pos (starEach (e :: rest) env)).any (·.1) = false := by rfl)
    (hall : (backToKw pos (keywordEach kws env)).all (·.1.isSome) = true := by rfl)
    (hkw : (backToKw pos (keywordEach kws env)).any (·.1.isNone) = false := by rfl) :
    wpAny M A (callWith pos (.builtin id) first (backTo pos (starEach (e :: rest) env)) (backToKw pos (keywordEach kws env))) Q E s := by
  refine callWith_builtin_kwB hplain hkw ?_
  rw [he] at h ⊢
  exact evalArgs_kwB hall h

theorem bool_no {α : Type} {c : Bool} {x y : Sem α} {Q : α → Shared → Prop} (hc : c = false) (h : wpAny M A y Q E s) : wpAny M A (if c = true then x else y) Q E s := by
  subst hc; exact h

/-- n.to_bytes(k, byteorder='big', signed=False), its octets as the library says them -/
theorem to_big_kw {x W : Int} {k : Nat} {t u v : Tok} {Q : Value → Shared → Prop} (hW : W = (k : Int)) (hk : k ≤ 8) (h0 : 0 ≤ x) (h1 : x < 256 ^ k)
    (h : ∀ (b : Array UInt8) t' k', KBw.bInts b = (KTBy.little k x).reverse → Q (.bytes b t') { s with toks := k' }) :
    wpAny (model prog w) A (call (.builtin "int.to_bytes") [.int x t, .int W u] [(PySem.Str.ofString "byteorder", .str (PySem.Str.ofString "big") v), (PySem.Str.ofString "signed", .bool false)]) Q E s := by
  subst hW
  have hb := KTBy.bits_le rfl h0 h1
  refine wpAny_call_entry_kw KTBy.slot (typeIs_int s x t) KTBy.entry ?_ (by unfold argsOk; kernel_rfl)
  show wpAny _ _ (Builtin.Int.intOfSelf (.int x t) >>= fun y => _) _ _ s
  refine wpAny_bind (wpAny_of_eq (a := x) rfl ?_)
  refine wpAny_bind (wpAny_of_eq (a := [some (.int (k : Int) u), some (.str (PySem.Str.ofString "big") v), some (.bool false)]) (by kernel_rfl) ?_)
  show wpAny _ _ (Builtin.Int.intIndex "int.to_bytes" (.int (k : Int) u) >>= fun n => _) _ _ s
  refine wpAny_bind (wpAny_of_eq (a := (k : Int)) rfl ?_)
  refine bool_no (by show (decide ((k : Int) < -(2 ^ 63 : Int)) || decide ((k : Int) ≥ 2 ^ 63)) = false; rw [decide_eq_false (show ¬ ((k : Int) < -(2 ^ 63 : Int)) by omega), decide_eq_false (show ¬ ((k : Int) ≥ 2 ^ 63) by omega)]; rfl) ?_
  refine wpAny_bind (wpAny_of_eq (a := PySem.Str.ofString "big") (by kernel_rfl) ?_)
  show wpAny _ _ (truthy (.bool false) >>= fun y => _) _ _ s
  refine wpAny_bind (wpAny_truthy_bool ?_)
  refine wpAny_bind (wpAny_of_eq (a := false) (by kernel_rfl) ?_)
  refine wpAny_ite_false (decide_eq_false (show ¬ ((k : Int) < 0) by omega)) ?_
  refine wpAny_ite_false (decide_eq_false (show ¬ ((k : Int) > 2 ^ 63 - 1 - 33) by omega)) ?_
  refine wpAny_ite_false (decide_eq_false (show ¬ ((k : Int) > (sizeLine : Int)) by rw [sizeLine_eq]; omega)) ?_
  refine bool_no (by show (decide (x < 0) && !false) = false; rw [decide_eq_false (show ¬ x < 0 by omega)]; rfl) ?_
  refine bool_no (by show (_ && decide ((Builtin.Int.intBits x : Int) > 8 * (k : Int))) = false; rw [decide_eq_false (show ¬ ((Builtin.Int.intBits x : Int) > 8 * (k : Int)) by omega), Bool.and_false]) ?_
  refine wpAny_bind (wpAny_mkBytes (wpAny_pure ⟨_, rfl, h _ _ _ ?_⟩) (by show (List.reverse (KTBy.low x (Int.toNat (k : Int)))).length ≤ sizeLine; rw [List.length_reverse, KTBy.low_length, Int.toNat_natCast, sizeLine_eq]; omega))
  show (List.map (fun c : UInt8 => ((c.toNat : Nat) : Int)) (List.reverse (KTBy.low x (Int.toNat (k : Int))))) = (KTBy.little k x).reverse
  rw [Int.toNat_natCast, List.map_reverse, KTBy.low_ints h0 h1, ← KTBy.little_eq]
end

theorem p256z (k : Nat) : (0 : Int) < 256 ^ k := Int.pow_pos (by decide)
theorem dig_little : ∀ (k : Nat) (n : Int) (row : List Int), 0 ≤ n → n < 256 ^ k → (k ≠ 0 → 256 ^ (k - 1) ≤ n) → digGo n row = (KTBy.little k n).reverse ++ row
  | 0, n, row, h0, h1, _ => by
    have : n = 0 := by simp only [Int.pow_zero] at h1; omega
    subst this
    rw [digGo_end (by omega)]; rfl
  | k + 1, n, row, h0, h1, h2 => by
    have h3 := h2 (by omega)
    have hp := p256z k
    rw [Int.pow_succ] at h1
    simp only [Nat.add_sub_cancel] at h3
    rw [digGo_pos (by omega), dig_little k (n / 256) (n % 256 :: row) (by omega) (by omega) (fun hk => by
      obtain ⟨j, rfl⟩ : ∃ j, k = j + 1 := ⟨k - 1, by omega⟩
      rw [Int.pow_succ] at h3
      simp only [Nat.add_sub_cancel]
      omega)]
    show _ = (n % 256 :: KTBy.little k (n / 256)).reverse ++ row
    rw [List.reverse_cons, List.append_assoc]; rfl
/-- the width that int_to_bytes takes -/
theorem width_of {n : Int} (h0 : 0 < n) (h1 : n < 2 ^ 32) : ∃ k : Nat, ((Builtin.Int.intBits n : Int) + 7).fdiv 8 = (k : Int) ∧ k ≤ 4 ∧ 0 < k ∧ n < 256 ^ k ∧ 256 ^ (k - 1) ≤ n := by
  have e8 : (2 : Nat) ^ 8 = 256 := by decide
  have hb32 : Builtin.Int.intBits n ≤ 32 := intBits_le_iff.mpr (by omega)
  refine ⟨(Builtin.Int.intBits n + 7) / 8, ?_, by omega, ?_, ?_, ?_⟩
  · rw [fdivE _ (by decide)]; omega
  · have : ¬ Builtin.Int.intBits n ≤ 0 := fun q => by
      have := intBits_le_iff.mp q
      simp only [Nat.pow_zero] at this
      omega
    omega
  · have := intBits_le_iff.mp (show Builtin.Int.intBits n ≤ 8 * ((Builtin.Int.intBits n + 7) / 8) by omega)
    rw [Nat.pow_mul, e8] at this
    rw [KTBy.p256]
    omega
  · refine Int.not_lt.mp fun q => ?_
    have : Builtin.Int.intBits n ≤ 8 * ((Builtin.Int.intBits n + 7) / 8 - 1) := intBits_le_iff.mpr (by
      rw [Nat.pow_mul, e8]
      rw [KTBy.p256] at q
      omega)
    have hpos : ¬ Builtin.Int.intBits n ≤ 0 := fun q => by
      have := intBits_le_iff.mp q
      simp only [Nat.pow_zero] at this
      omega
    omega
theorem octs_of {b : Array UInt8} {l : List Int} (h : KBw.bInts b = l) : b = octs l := by
  subst h
  unfold octs KBw.bInts
  rw [List.map_map]
  have : (oct ∘ fun c : UInt8 => (c.toNat : Int)) = id := by
    funext c
    simp [oct]
  rw [this, List.map_id]

local macro_rules | `(tactic| walk_at "callWith") => `(tactic| (k_here; (with_reducible show wpAny _ _ (callWith _ (Value.builtin "int.to_bytes") _ _ _) _ _ _); refine Mine.cw_kw ?_))
local macro_rules | `(tactic| walk_at "call builtin:int.to_bytes") => `(tactic| (k_here; k_dflt (refine Mine.to_big_kw (by assumption) (by assumption) (by assumption) (by assumption) ?_); intro b' t' k' hb'))
section
variable {w : World} {loose : List Str} {mean : ExcName → Option Value} {mg mb : Str → Option Value} {dp un : Nat} {gd : Option (List Code)} {cn : Str} {cs : Scope} {a : Addr} {ccd : Value} {cl : List (Str × Addr)} {outer : List Env} {A₀ : Around} {base h₀ : Heap} {L : Addr} {m : Str → Option Value} {s : Shared} {Q E : Value → Shared → Prop} {rest : List (Addr × Obj)}

set_option maxHeartbeats 8000000 in
theorem i2b_ct {n : Int} {tt : Tok}
    (C : Cx w loose mean mg mb dp un 1 cs outer A₀ base h₀) (F : Fr h₀ L s.heap m) (N : News h₀ L s.heap rest)
    (h0 : 0 < n) (h1 : n < 2 ^ 32)
    (hret : ∀ (t' : Tok) (h' : Heap) (tk' : Nat), (digGo n []).length ≤ 4 → Fr h₀ L h' m → News h₀ L h' rest → Q (.bytes (octs (digGo n [])) t') { s with heap := h', toks := tk' }) :
    wpAny (model PySem.Challenge.rw_eh5002_01.row.prog w) (ktrTop dp un gd cn cs L a ccd cl outer) (call (.ref 29) [.int n tt]) Q E s := by
  obtain ⟨B, X, T, hk, hd, hu⟩ := C
  revert X; k_fill; intro X
  have hC := cLine_is
  refine wpAny_call ?_
  k_dflt (refine' code_def ?k1 ?k2 ?k3 ?k4 ?k5 ?kA ?kF ?kK ?k6 ?k7 ?k8 ?k9 ?kB ?_ ?c2 ?c3 ?c4 ?c5; (case kA => exact rfl); (case kF => exact rfl); (case kK => assumption); (case k1 => k_asm); (case k2 => k_asm); (case k3 => k_asm); (case k4 => k_asm); (case k5 => k_asm); (case k6 => k_is); (case k7 => k_is); (case k8 => ktr_room); (case k9 => exact binds_K (by k_in) rfl (by k_is) rfl rfl rfl); (case c5 => decide); (case kB => exact locs rfl); (case c2 => exact rfl); (case c3 => exact rfl); (case c4 => exact rfl); k_whole; intro g' L' h' FG' F' N' B' X' T'; (try dsimp only); (try k_fold))
  rename Fr _ _ _ _ => F1
  have F2 := Fr.congr F1 (fun y => look3 y (Str.ofString "width") (Str.ofString "signed") (Str.ofString "value") _ _ _)
  clear F1
  obtain ⟨k, hW, hk4, hk0, hlt, hge⟩ := width_of h0 h1
  have hk8 : k ≤ 8 := by omega
  have h0' : 0 ≤ n := by omega
  have e := dig_little k n [] h0' hlt (fun _ => hge)
  rw [List.append_nil] at e
  k_steps
  · rename KBw.bInts _ = _ => hb
    rw [← e] at hb
    have hb2 := octs_of hb
    subst hb2
    refine hret _ _ _ ?_ (by assumption) (by assumption)
    rw [e, List.length_reverse, KTBy.little_length]; exact hk4
  · exfalso
    rename _ = (0 : Int) => hz
    omega
end
end Mine

namespace Mine
open PySem PySem.W PyProof.Rows PySem.Calls PySem.Spec PySem.Builtin.Int
set_option maxRecDepth 100000
set_option Elab.async false
local macro_rules | `(tactic| walk_at "pad 0") => `(tactic| skip)
local macro_rules | `(tactic| walk_at "pad 1") => `(tactic| skip)
local macro_rules | `(tactic| walk_at "pad 2") => `(tactic| skip)
local macro_rules | `(tactic| walk_at "pad 3") => `(tactic| skip)

section
variable {prog : Program} {w : World} {M : Model} {A : Around} {E : Value → Shared → Prop} {s : Shared} {env : Env} {h₀ : Heap} {L : Addr} {m : Str → Option Value} {news : List (Addr × Obj)}
theorem bool_noB {α : Type} {c : Bool} {x y : Sem α} {Q : α → Shared → Prop} (hc : c = false) (h : wpAny M A y Q E s) : wpAny M A (if c = true then x else y) Q E s := by
  subst hc; exact h
theorem bool_yesB {α : Type} {c : Bool} {x y : Sem α} {Q : α → Shared → Prop} (hc : c = true) (h : wpAny M A x Q E s) : wpAny M A (if c = true then x else y) Q E s := by
  subst hc; exact h
theorem keeps_bound {u : Addr} (h : Heap) (X : KFB.StandsAt u h) : ∃ k, (k = Keeper.frame ∨ k = Keeper.machine ∨ k = Keeper.boundFrame) ∧ Looks M h (keeperOf (.ref u)) k := by
  refine ⟨.machine, .inr (.inl rfl), (Looks.ld (part := none) X).andThen ?_⟩
  exact .now
theorem cwb_kw {pos : Pos} {u : Addr} {first : List Value} {e : Expr} {rest : List Expr} {kws : List Keyword} {Q : Value → Shared → Prop} (_N : News h₀ L s.heap news) (_hm : (u, KFB.bound) ∈ news)
    (h : wpAny M A (spliced (backTo pos (starEach (e :: rest) env))) (fun vs s₁ => wpAny M A (evalAll ((backToKw pos (keywordEach kws env)).map (·.2)))
      (fun ks s₂ => KFB.StandsAt u s₂.heap ∧ wpAny M A (call (.ref u) (first ++ vs) (((backToKw pos (keywordEach kws env)).filterMap (·.1)).zip ks)) Q E s₂) E s₁) E s)
    (hall : (backToKw pos (keywordEach kws env)).all (·.1.isSome) = true := by rfl)
    (hplain : ((backTo pos (starEach (e :: rest) env)).any (·.1) || (backToKw pos (keywordEach kws env)).any (·.1.isNone)) = false := by rfl) (he : starEach (e :: rest) env = (false, eval e env) :: starEach rest env := by rfl) :
    wpAny M A (callWith pos (.ref u) first (backTo pos (starEach (e :: rest) env)) (backToKw pos (keywordEach kws env))) Q E s :=
  callWith_of hplain keeps_bound (evalArgs_kw2 hall h he)

theorem tree_big_kw {b : Array UInt8} {t u : Tok} {P : Fin → Shared → Prop} (hl : b.size ≤ 8) (h : P (.done (.ret (.int (KFB.value (KBw.bInts b)) s.toks))) { s with toks := s.toks + 1 }) :
    wpAny M A (Builtin.«int.from_bytes» ⟨[.type "int", .bytes b t, .str (PySem.Str.ofString "big") u], [(PySem.Str.ofString "signed", .bool false)]⟩) P E s := by
  have hv : ((b.toList.foldl (fun (acc : Nat) (b : UInt8) => acc * 256 + b.toNat) 0 : Nat) : Int) = KFB.value (KBw.bInts b) := KFB.fold_cast b.toList 0
  have hn : b.toList.foldl (fun (acc : Nat) (b : UInt8) => acc * 256 + b.toNat) 0 < 2 ^ 64 := by
    have h1 := KFB.fold_lt b.toList 0
    rw [Nat.zero_add, Nat.one_mul, Array.length_toList] at h1
    have h2 : 256 ^ b.size ≤ 256 ^ 8 := Nat.pow_le_pow_right (by decide) hl
    omega
  unfold Builtin.«int.from_bytes»
  refine wpAny_bind (wpAny_of_eq (a := true) KFB.type_int ?_)
  refine bool_noB rfl ?_
  refine wpAny_bind (wpAny_of_eq (a := true) F.conv_sub_int ?_)
  refine bool_noB rfl ?_
  refine wpAny_bind (wpAny_of_eq (a := [some (.bytes b t), some (.str (PySem.Str.ofString "big") u), some (.bool false)]) (by kernel_rfl) ?_)
  refine wpAny_bind (wpAny_of_eq (a := PySem.Str.ofString "big") (by kernel_rfl) ?_)
  show wpAny _ _ (truthy (.bool false) >>= fun y => _) _ _ s
  refine wpAny_bind (wpAny_truthy_bool ?_)
  refine wpAny_bind (wpAny_of_eq (a := false) (by kernel_rfl) ?_)
  refine wpAny_bind (wpAny_of_eq (a := b) rfl ?_)
  show wpAny _ _ (mkIntGrown (b.toList.foldl (fun (acc : Int) (b : UInt8) => acc * 256 + (b.toNat : Int)) ((0 : Nat) : Int)) >>= fun v => _) _ _ _
  rw [KFB.foldI_eq]
  refine wpAny_bind (KFB.grown hn ?_)
  rw [hv]
  refine bool_yesB (by decide +kernel) ?_
  exact wpAny_bind (wpAny_pure (wpAny_pure h))
theorem check_kw {b : Array UInt8} {t u : Tok} {o : PySem.Str} : checkBoundCall "int.from_bytes" ⟨[.type "int", .bytes b t, .str o u], [(PySem.Str.ofString "signed", .bool false)]⟩ = pure () := by first | kernel_rfl | rfl
theorem call_from {x : Addr} {b : Array UInt8} {t u : Tok} {l : List Int} {Q : Value → Shared → Prop} (N : News h₀ L s.heap news) (hm : (x, KFB.bound) ∈ news) (hb : KBw.bInts b = l) (hl : l.length ≤ 8)
    (h : ∀ t' k, Q (.int (KFB.value l) t') { s with toks := k }) : wpAny (model prog w) A (call (.ref x) [.bytes b t, .str (PySem.Str.ofString "big") u] [(PySem.Str.ofString "signed", .bool false)]) Q E s := by
  subst hb
  refine wpAny_call (codeAny_of_tree ?_)
  show wpAny _ A.in1 (callAny (.ref x) ⟨[.bytes b t, .str (PySem.Str.ofString "big") u], [(PySem.Str.ofString "signed", .bool false)]⟩) _ _ s
  simp only [callAny]
  refine wpAny_bind (wpAny_load (KFB.at_of N hm) ?_)
  simp only [KFB.bound, show (Value.type "builtin_function_or_method" == Value.type "method" || Value.type "builtin_function_or_method" == Value.type "builtin_function_or_method" || Value.type "builtin_function_or_method" == Value.type "method-wrapper") = true by decide, if_true]
  refine bool_yesB (by decide) ?_
  refine wpAny_bind (wpAny_of_eq (a := ()) check_kw ?_)
  refine wpAny_bind (wpAny_pure (wpAny_pure ?_))
  exact ⟨KFB.quiet_fb, codeAny_builtin KFB.entry_fb (tree_big_kw (by rw [← KBw.ints_length]; exact hl) (h _ _))⟩
end

section
variable {w : World} {loose : List Str} {mean : ExcName → Option Value} {mg mb : Str → Option Value} {dp un : Nat} {gd : Option (List Code)} {cn : Str} {cs : Scope} {a : Addr} {ccd : Value} {cl : List (Str × Addr)} {outer : List Env} {A₀ : Around} {base h₀ : Heap} {L : Addr} {m : Str → Option Value} {s : Shared} {Q E : Value → Shared → Prop} {rest : List (Addr × Obj)}

local macro_rules | `(tactic| walk_at "callWith ref") => `(tactic| (k_here; (with_reducible show wpAny _ _ (callWith _ (Value.ref _) _ _ (backToKw _ (keywordEach (_ :: _) _))) _ _ _); kfb_any; k_dflt (refine' Mine.cwb_kw ?N ?M ?_; (case N => k_asm); (case M => k_mem))))
local macro_rules | `(tactic| walk_at "call ref") => `(tactic| (k_here; (with_reducible show wpAny _ _ (call (Value.ref _) _ _) _ _ _); kfb_any; k_dflt (refine Mine.call_from (by k_asm) (by k_mem) (by assumption) (by assumption) ?_); intro t' k'))

set_option maxHeartbeats 8000000 in
theorem ifb_ct {b : Array UInt8} {l : List Int} {tb : Tok}
    (C : Cx w loose mean mg mb dp un 1 cs outer A₀ base h₀) (F : Fr h₀ L s.heap m) (N : News h₀ L s.heap rest)
    (hb : KBw.bInts b = l) (hl : l.length ≤ 8)
    (hret : ∀ (t' : Tok) (h' : Heap) (tk' : Nat), Fr h₀ L h' m → News h₀ L h' rest → Q (.int (KFB.value l) t') { s with heap := h', toks := tk' }) :
    wpAny (model PySem.Challenge.rw_eh5002_01.row.prog w) (ktrTop dp un gd cn cs L a ccd cl outer) (call (.ref 37) [.bytes b tb] [(PySem.Str.ofString "signed", .bool false)]) Q E s := by
  obtain ⟨B, X, T, hk, hd, hu⟩ := C
  revert X; k_fill; intro X
  have hC := cLine_is
  refine wpAny_call ?_
  k_dflt (refine' code_def ?k1 ?k2 ?k3 ?k4 ?k5 ?kA ?kF ?kK ?k6 ?k7 ?k8 ?k9 ?kB ?_ ?c2 ?c3 ?c4 ?c5; (case kA => exact rfl); (case kF => exact rfl); (case kK => assumption); (case k1 => k_asm); (case k2 => k_asm); (case k3 => k_asm); (case k4 => k_asm); (case k5 => k_asm); (case k6 => k_is); (case k7 => k_is); (case k8 => ktr_room); (case k9 => exact binds_K (by k_in) rfl (by k_is) rfl rfl rfl); (case c5 => decide); (case kB => exact locs rfl); (case c2 => exact rfl); (case c3 => exact rfl); (case c4 => exact rfl); k_whole; intro g' L' h' FG' F' N' B' X' T'; (try dsimp only); (try k_fold))
  rename Fr _ _ _ _ => F1
  have F2 := Fr.congr F1 (fun y => look2 y (Str.ofString "signed") (Str.ofString "value") _ _)
  clear F1
  k_steps
  exact hret _ _ _ (by assumption) (cb_drop (by assumption) sub1)
end
end Mine

namespace Mine
open PySem PySem.W PyProof.Rows PySem.Calls PySem.Spec
set_option maxRecDepth 100000
set_option Elab.async false
local macro_rules | `(tactic| walk_at "pad 0") => `(tactic| skip)
local macro_rules | `(tactic| walk_at "pad 1") => `(tactic| skip)
local macro_rules | `(tactic| walk_at "pad 2") => `(tactic| skip)
local macro_rules | `(tactic| walk_at "pad 3") => `(tactic| skip)
local macro_rules | `(tactic| walk_at "pad 4") => `(tactic| skip)
local macro_rules | `(tactic| walk_at "pad 5") => `(tactic| skip)
local macro_rules | `(tactic| walk_at "pad 6") => `(tactic| skip)
section
variable {w : World} {loose : List Str} {mean : ExcName → Option Value} {mg mb : Str → Option Value} {dp un : Nat} {gd : Option (List Code)} {cn : Str} {cs : Scope} {a : Addr} {ccd : Value} {cl : List (Str × Addr)} {outer : List Env} {A₀ : Around} {base h₀ : Heap} {L : Addr} {m : Str → Option Value} {s : Shared} {Q E : Value → Shared → Prop} {rest : List (Addr × Obj)}

set_option maxHeartbeats 4000000 in
theorem chr_ct {n : Int} {t : Tok}
    (C : Cx w loose mean mg mb dp un 1 cs outer A₀ base h₀) (F : Fr h₀ L s.heap m) (N : News h₀ L s.heap rest)
    (h0 : 0 ≤ n ∧ n < 256)
    (hret : ∀ t h' tk', Fr h₀ L h' m → News h₀ L h' rest → Q (.bytes (octs [n]) t) { s with heap := h', toks := tk' }) :
    wpAny (model PySem.Challenge.rw_eh5002_01.row.prog w) (ktrTop dp un gd cn cs L a ccd cl outer) (call (.ref 21) [.int n t]) Q E s := by
  obtain ⟨B, X, T, hk, hd, hu⟩ := C
  obtain ⟨h0, h1⟩ := h0
  revert X; k_fill; intro X
  have hC := cLine_is
  refine wpAny_call ?_
  k_dflt ktr_enter
  k_steps
  exact hret _ _ _ (by assumption) (cb_drop (by assumption) sub1)
end
end Mine

namespace Mine
open PySem PySem.W PyProof.Rows PySem.Calls PySem.Spec
set_option maxRecDepth 100000
set_option Elab.async false
theorem octs_nil : (#[] : Array UInt8) = octs [] := rfl
theorem octs_rw {Q : Value → Shared → Prop} {x y : List Int} {t : Tok} {s : Shared} (e : x = y) (h : Q (.bytes (octs y) t) s) : Q (.bytes (octs x) t) s := e ▸ h
theorem shr7 (x : Int) : x.fdiv (2 ^ Int.toNat 7) = x / 128 := by
  have e : (2 : Int) ^ Int.toNat 7 = 128 := by decide
  rw [e]; exact fdivE x (by decide)
theorem hdr_a {g me t n : Int} (ht : t < 31) (hn : n ≤ 127) : lawHdr g me t n = [64 * g + 32 * me + t] ++ [n] := by
  unfold lawHdr lawLen
  rw [if_pos ht, if_pos (by omega)]; rfl
theorem hdr_b {g me t n : Int} (ht : t < 31) (hn : ¬ n ≤ 127) : lawHdr g me t n = [64 * g + 32 * me + t] ++ [128 + ((digGo n []).length : Int)] ++ digGo n [] := by
  unfold lawHdr lawLen
  rw [if_pos ht, if_neg (by omega)]; rfl
theorem hdr_c {g me t n : Int} (ht : ¬ t < 31) (hn : n ≤ 127) : lawHdr g me t n = (64 * g + 32 * me + 31) :: lawBase t ++ [n] := by
  unfold lawHdr lawLen
  rw [if_neg ht, if_pos (by omega)]; rfl
theorem hdr_d {g me t n : Int} (ht : ¬ t < 31) (hn : ¬ n ≤ 127) : lawHdr g me t n = (64 * g + 32 * me + 31) :: lawBase t ++ [128 + ((digGo n []).length : Int)] ++ digGo n [] := by
  unfold lawHdr lawLen
  rw [if_neg ht, if_neg (by omega)]
  simp
theorem noI_bytes : typeLookup (.type "bytes") (dunderI "add") = pure none := by rw [typeLookup_type, builtinLookup_eq_fast]; kernel_rfl
section
variable {prog : Program} {w : World} {A : Around} {E : Value → Shared → Prop} {s : Shared} {b c : Array UInt8} {t u : Tok} {Q : Value → Shared → Prop} {x y : List Int}
theorem cat_post (hsz : b.size + c.size ≤ 16777216) (h : ∀ t' k, Q (.bytes (b ++ c) t') { s with toks := k }) :
    (if b.isEmpty = true then Made.val (.bytes c u) else if c.isEmpty = true then Made.val (.bytes b t) else Made.bytes (b ++ c)).post Q s := by
  by_cases hb : b.isEmpty = true
  · rw [if_pos hb]
    have e : b = #[] := Array.isEmpty_iff.1 hb
    have h' := h u s.toks
    rw [e, Array.empty_append] at h'
    exact h'
  · rw [if_neg hb]
    by_cases hc : c.isEmpty = true
    · rw [if_pos hc]
      have e : c = #[] := Array.isEmpty_iff.1 hc
      have h' := h t s.toks
      rw [e, Array.append_empty] at h'
      exact h'
    · rw [if_neg hc]
      exact ⟨by rw [Array.size_append, sizeLine_eq]; exact hsz, h s.toks (s.toks + 1)⟩
theorem iadd_bytes (hsz : b.size + c.size ≤ 16777216) (h : ∀ t' k, Q (.bytes (b ++ c) t') { s with toks := k }) : wpAny (model prog w) A (inplaceOp .Add (.bytes b t) (.bytes c u)) Q E s :=
  iconcat_gives (typeIs_bytes s b t) (typeIs_bytes s c u) noI_bytes KBy.noFill_bytes_add KBy.seq_bytes_add FB.slot_bytes_add FB.entry_bytes_add (FB.args_bytes_add_2 _ _) (KBy.gives_bytes_add (KBy.tooLong_not hsz)) (cat_post hsz h)
theorem add_octs (hb : b = octs x) (hc : c = octs y) (hsz : x.length + y.length ≤ 2000000) (h : ∀ t' k, Q (.bytes (octs (x ++ y)) t') { s with toks := k }) : wpAny (model prog w) A (binaryOp .Add (.bytes b t) (.bytes c u)) Q E s := by
  subst hb hc
  refine KBy.add_bytes (by rw [octs_size, octs_size]; omega) fun t' k => ?_
  rw [octs_append]; exact h t' k
theorem iadd_octs (hb : b = octs x) (hc : c = octs y) (hsz : x.length + y.length ≤ 2000000) (h : ∀ t' k, Q (.bytes (octs (x ++ y)) t') { s with toks := k }) : wpAny (model prog w) A (inplaceOp .Add (.bytes b t) (.bytes c u)) Q E s := by
  subst hb hc
  refine iadd_bytes (by rw [octs_size, octs_size]; omega) fun t' k => ?_
  rw [octs_append]; exact h t' k
theorem len_octs (hb : b = octs x) (hsz : x.length ≤ 2000000) (h : ∀ t' k, Q (.int (x.length : Nat) t') { s with toks := k }) : wpAny (model prog w) A (call (.builtin "len") [.bytes b t]) Q E s := by
  subst hb
  refine len_bytes (by rw [octs_size]; omega) ?_
  rw [octs_size]; exact h _ _
end

section
variable {prog : Program} {w : World} {A : Around} {E : Value → Shared → Prop} {s : Shared} {value slice : PySem.Expr} {b : Array UInt8} {t : Tok} {h₀ : Heap} {L : Addr} {m : PySem.Str → Option Value} {news : List (Addr × Obj)} {Q : Value → Shared → Prop} {ks : List Int}
theorem item_at {i v : Int} {ui : Tok} (hk : KBw.bInts b = ks) (hfit : ks.length ≤ 2000000) (h0 : 0 ≤ i) (hv : ks[i.toNat]? = some v)
    (h : ∀ t' k, Q (.int v t') { s with toks := k })
    (hs : subscripted slice false (.bytes b t) (.int i ui) = operate [.bytes b t, .int i ui] (getItem (.bytes b t) (.int i ui)) := by with_unfolding_all rfl)
    (ht : ∀ r, letTemporaryGo value (.bytes b t) r = pure () := by intro _; with_unfolding_all rfl) : wpAny (model prog w) A (subscriptTail value slice (.bytes b t) (.int i ui)) Q E s := by
  have hlt : i.toNat < ks.length := by
    refine Nat.lt_of_not_le fun q => ?_
    rw [List.getElem?_eq_none q] at hv
    cases hv
  have e : ks.getD i.toNat 0 = v := by
    rw [List.getD_eq_getElem?_getD, hv]; rfl
  refine KBw.item_K hk (by omega) h0 (by omega) (fun t' k _ _ => ?_) hs ht
  rw [e]; exact h t' k
theorem slice_at {lo hi : Int} {tl th : Tok} (F : Fr h₀ L s.heap m) (N : News h₀ L s.heap news) (hk : KBw.bInts b = ks) (h0 : 0 ≤ lo) (h1 : lo ≤ hi) (h2 : hi ≤ ks.length) (hz : ks.length ≤ 2000000)
    (h : ∀ h' t' k, Fr h₀ L h' m → News h₀ L h' news → Q (.bytes (octs ((ks.drop lo.toNat).take (hi.toNat - lo.toNat))) t') { s with heap := h', toks := k })
    (hs : subscripted slice false (.bytes b t) (.ref s.heap.objs.size) = operate [.ref s.heap.objs.size, .bytes b t] (getItem (.bytes b t) (.ref s.heap.objs.size)) := by with_unfolding_all rfl)
    (ht : ∀ r, letTemporaryGo value (.bytes b t) r = pure () := by intro _; with_unfolding_all rfl) :
    wpAny (model prog w) A (subscriptTail value slice (.bytes b t) (.ref s.heap.objs.size)) Q E { s with heap := s.heap.push { cls := .type "slice", data := .fields #[.int lo tl, .int hi th, .none] } } := by
  refine KBc.slice_K (lo := some lo) (hi := some hi) F N hk (by constructor) (by constructor) (by omega) (fun h' t' k F' N' hb => ?_) hs ht
  simp only [Option.elim] at hb
  rw [clipAt_in h0 (by omega), clipAt_in (by omega) h2] at hb
  rw [octs_of hb]
  exact h h' t' k F' N'
end

theorem dig_mem : ∀ (k : Nat) (n : Int) (row : List Int), n.toNat ≤ k → (∀ x ∈ row, 0 ≤ x ∧ x < 256) → ∀ x ∈ digGo n row, 0 ≤ x ∧ x < 256 := by
  intro k
  induction k with
  | zero =>
    intro n row h0 hr
    rw [digGo_end (by omega)]; exact hr
  | succ k ih =>
    intro n row h0 hr
    by_cases hn : 0 < n
    · rw [digGo_pos hn]
      exact ih _ _ (by omega) fun x hx => by
        rcases List.mem_cons.mp hx with rfl | hx
        · omega
        · exact hr x hx
    · rw [digGo_end hn]; exact hr
theorem base_mem : ∀ (k : Nat) (n : Int) (row : List Int), n.toNat ≤ k → (∀ x ∈ row, 0 ≤ x ∧ x < 256) → ∀ x ∈ baseGo n row, 0 ≤ x ∧ x < 256 := by
  intro k
  induction k with
  | zero =>
    intro n row h0 hr
    rw [baseGo_end (by omega)]; exact hr
  | succ k ih =>
    intro n row h0 hr
    by_cases hn : 0 < n
    · rw [baseGo_pos hn]
      exact ih _ _ (by omega) fun x hx => by
        rcases List.mem_cons.mp hx with rfl | hx
        · omega
        · exact hr x hx
    · rw [baseGo_end hn]; exact hr
theorem dig_len {n : Int} (h0 : 0 < n) (h1 : n < 2 ^ 32) : 1 ≤ (digGo n []).length ∧ (digGo n []).length ≤ 4 := by
  obtain ⟨k, _, h4, hk0, hlt, hge⟩ := width_of h0 h1
  rw [dig_little k n [] (by omega) hlt (fun _ => hge), List.append_nil, List.length_reverse, KTBy.little_length]
  omega
theorem len_mem {n : Int} (h0 : 0 ≤ n) (h1 : n < 2 ^ 32) : ∀ x ∈ lawLen n, 0 ≤ x ∧ x < 256 := by
  unfold lawLen
  by_cases h : n < 128
  · rw [if_pos h]
    intro x hx
    rw [List.mem_singleton.mp hx]; omega
  · rw [if_neg h]
    intro x hx
    have := dig_len (by omega) h1
    rcases List.mem_cons.mp hx with rfl | hx
    · omega
    · exact dig_mem _ n [] (Nat.le_refl _) (fun _ q => nomatch q) x hx
theorem hdr_mem {g me t n : Int} (hg0 : 0 ≤ g) (hg1 : g < 4) (hm0 : 0 ≤ me) (hm1 : me < 2) (ht : 0 ≤ t) (h0 : 0 ≤ n) (h1 : n < 2 ^ 32) : ∀ x ∈ lawHdr g me t n, 0 ≤ x ∧ x < 256 := by
  unfold lawHdr
  by_cases h : t < 31
  · rw [if_pos h]
    intro x hx
    rcases List.mem_cons.mp hx with rfl | hx
    · omega
    · exact len_mem h0 h1 x hx
  · rw [if_neg h]
    intro x hx
    rcases List.mem_cons.mp hx with rfl | hx
    · omega
    rcases List.mem_append.mp hx with hx | hx
    · exact base_mem _ _ [t % 128] (Nat.le_refl _) (fun x hx => by rw [List.mem_singleton.mp hx]; omega) x hx
    · exact len_mem h0 h1 x hx
theorem ints_octs {l : List Int} (h : ∀ x ∈ l, 0 ≤ x ∧ x < 256) : KBw.bInts (octs l) = l := by
  unfold KBw.bInts octs
  rw [List.toList_toArray, List.map_map]
  conv => rhs; rw [← List.map_id l]
  refine List.map_congr_left fun x hx => ?_
  have := h x hx
  show (((UInt8.ofNat x.toNat).toNat : Nat) : Int) = x
  rw [UInt8.toNat_ofNat']
  omega
end Mine

namespace Mine
open PySem PySem.W PyProof.Rows PySem.Calls PySem.Spec
set_option maxRecDepth 100000
set_option Elab.async false
local macro_rules | `(tactic| walk_at "pad 0") => `(tactic| skip)
local macro_rules | `(tactic| walk_at "pad 1") => `(tactic| skip)
theorem id_small {g me x : Int} (hg0 : 0 ≤ g) (hg1 : g < 4) (hm0 : 0 ≤ me) (hm1 : me < 2) (h0 : 0 ≤ x) (h1 : x < 32) : 0 ≤ Builtin.bitOr (Builtin.bitOr (Builtin.bitOr 0 (g * 2 ^ Int.toNat 6)) (me * 2 ^ Int.toNat 5)) x ∧ Builtin.bitOr (Builtin.bitOr (Builtin.bitOr 0 (g * 2 ^ Int.toNat 6)) (me * 2 ^ Int.toNat 5)) x < 256 := by
  rw [id_or hg0 hg1 hm0 hm1 h0 h1]; omega
theorem or_len {l : List Int} (h : l.length ≤ 4) : 0 ≤ Builtin.bitOr 128 (l.length : Int) ∧ Builtin.bitOr 128 (l.length : Int) < 256 := by
  rw [or_128 (by omega) (by omega)]; omega
theorem or_0s (x : Int) : 0 ≤ Builtin.bitOr 0 (Builtin.bitAnd x 127) ∧ Builtin.bitOr 0 (Builtin.bitAnd x 127) < 256 := by rw [or_0m]; omega
theorem or_128s (x : Int) : 0 ≤ Builtin.bitOr 128 (Builtin.bitAnd x 127) ∧ Builtin.bitOr 128 (Builtin.bitAnd x 127) < 256 := by rw [or_128m]; omega

section
variable {w : World} {loose : List Str} {mean : ExcName → Option Value} {mg mb : Str → Option Value} {dp un : Nat} {gd : Option (List Code)} {cn : Str} {cs : Scope} {a : Addr} {ccd : Value} {cl : List (Str × Addr)} {outer : List Env} {A₀ : Around} {base h₀ : Heap} {L : Addr} {m : Str → Option Value} {s : Shared} {Q E : Value → Shared → Prop} {rest : List (Addr × Obj)}

local macro_rules | `(tactic| walk_at "binaryOp Add bytes bytes") => `(tactic| (k_here; k_dflt (refine' Mine.add_octs ?e1 ?e2 ?z ?_; (case e1 => first | with_reducible exact rfl | with_reducible exact Mine.octs_nil); (case e2 => first | with_reducible exact rfl | with_reducible exact Mine.octs_nil); (case z => simp only [List.length_append, List.length_cons, List.length_nil]; omega)); intro t' k'))
local macro_rules | `(tactic| walk_at "inplaceOp Add bytes bytes") => `(tactic| (k_here; k_dflt (refine' Mine.iadd_octs ?e1 ?e2 ?z ?_; (case e1 => first | with_reducible exact rfl | with_reducible exact Mine.octs_nil); (case e2 => first | with_reducible exact rfl | with_reducible exact Mine.octs_nil); (case z => simp only [List.length_append, List.length_cons, List.length_nil]; omega)); intro t' k'))
local macro_rules | `(tactic| walk_at "call builtin:len") => `(tactic| (k_here; (with_reducible show wpAny _ _ (call (Value.builtin "len") [Value.bytes (Mine.octs _) _]) _ _ _); k_dflt (refine' Mine.len_octs ?e1 ?z ?_; (case e1 => with_reducible exact rfl); (case z => omega)); intro t' k'))
local macro_rules | `(tactic| walk_at "exec While Compare cons nil") => `(tactic| (refine Mine.hold ?_))
local macro_rules | `(tactic| walk_at "call ref") => `(tactic| (k_here; (with_reducible show wpAny _ _ (call (Value.ref 21) _) _ _ _); (with_unfolding_all refine' Mine.chr_ct ?C ?F ?N ?h0 ?_); (case C => exact ⟨by k_asm, by k_asm, by k_asm, by first | exact rfl | assumption, by first | omega | ktr_room, by first | omega | ktr_units⟩); (case F => k_asm); (case N => k_asm); (case h0 => first | with_reducible assumption | with_reducible exact Mine.id_small (by assumption) (by assumption) (by assumption) (by assumption) (by omega) (by omega) | with_reducible exact Mine.or_0s _ | with_reducible exact Mine.or_128s _ | with_reducible exact Mine.or_len (by assumption) | (constructor <;> omega)); intro t' h' tk' F' N'; (try dsimp only); (try k_fold); (try k_sweep)))
local macro_rules | `(tactic| walk_at "call ref") => `(tactic| (k_here; (with_reducible show wpAny _ _ (call (Value.ref 29) _) _ _ _); (with_unfolding_all refine' Mine.i2b_ct ?C ?F ?N ?h0 ?h1 ?_); (case C => exact ⟨by k_asm, by k_asm, by k_asm, by first | exact rfl | assumption, by first | omega | ktr_room, by first | omega | ktr_units⟩); (case F => k_asm); (case N => k_asm); (case h0 => first | assumption | omega); (case h1 => first | assumption | omega); intro t' h' tk' hl' F' N'; (try dsimp only); (try k_fold); (try k_sweep)))

def J52 (t idv : Int) (bd : Array UInt8) (t4 : Tok) (rest : List (Addr × Obj)) (n : Nat) (m : Str → Option Value) (news : List (Addr × Obj)) : Prop :=
  ∃ (x : Int) (tx : Tok) (row : List Int) (th : Tok) (c : Int) (tc ti : Tok),
    m (Str.ofString "tag") = some (.int x tx) ∧ m (Str.ofString "header") = some (.bytes (octs row) th) ∧ m (Str.ofString "cont_bit") = some (.int c tc) ∧ m (Str.ofString "id_num") = some (.int idv ti) ∧
    m (Str.ofString "contents") = some (.bytes bd t4) ∧ news = rest ∧ 0 ≤ x ∧ n = x.toNat ∧
    ((c = 0 ∧ x = t ∧ row = []) ∨ (c = 128 ∧ baseGo x row = lawBase t ∧ 1 ≤ row.length ∧ x < 2 ^ (210 - 7 * row.length))) ∧ row.length ≤ 30

set_option maxHeartbeats 8000000 in
theorem dump_ct {g me t : Int} {bd : Array UInt8} {t1 t2 t3 t4 : Tok}
    (C : Cx w loose mean mg mb dp un 2 cs outer A₀ base h₀) (F : Fr h₀ L s.heap m) (N : News h₀ L s.heap rest)
    (hg0 : 0 ≤ g) (hg1 : g < 4) (hm0 : 0 ≤ me) (hm1 : me < 2) (h0 : 0 ≤ t) (h1 : t < 2 ^ 200) (hbd : bd.size < 1000000)
    (hret : ∀ (t' : Tok) (h' : Heap) (tk' : Nat), Fr h₀ L h' m → News h₀ L h' rest → Q (.bytes (octs (lawHdr g me t bd.size)) t') { s with heap := h', toks := tk' }) :
    wpAny (model PySem.Challenge.rw_eh5002_01.row.prog w) (ktrTop dp un gd cn cs L a ccd cl outer) (call (.ref 52) [.int g t1, .int me t2, .int t t3, .bytes bd t4]) Q E s := by
  obtain ⟨B, X, T, hk, hd, hu⟩ := C
  revert X; k_fill; intro X
  have hC := cLine_is
  refine wpAny_call ?_
  k_dflt ktr_enter
  rename Fr _ _ _ _ => F1
  have F2 := Fr.congr F1 (fun y => look4 y (Str.ofString "contents") (Str.ofString "tag") (Str.ofString "method") (Str.ofString "class_") _ _ _ _)
  clear F1
  k_steps
  · rename Fr _ _ _ _ => F1
    rename News _ _ _ _ => N1
    refine While_inv2 (J52 t _ bd t4 rest) (n₀ := t.toNat) F1 N1 ⟨t, _, [], _, 0, _, _, rfl, rfl, rfl, rfl, rfl, rfl, h0, rfl, .inl ⟨rfl, rfl, rfl⟩, by simp⟩ ?_
    intro n m₁ news₁ h₁ tk₁ F₂ N₂ ⟨x, tx, row, th, c, tc, ti, em1, em2, em3, em4, em5, en, hx0, hn, hor, hlr⟩
    subst en
    replace F₂ := Fr.put5 F₂ em1 em2 em3 em4 em5
    clear F1 N1
    rcases hor with ⟨rfl, rfl, rfl⟩ | ⟨rfl, hgo, hl1, hb⟩
    · k_steps
      refine ⟨_, _, _, _, (x / 128).toNat, rfl, by assumption, by assumption, by omega, x.fdiv (2 ^ Int.toNat 7), _, [Builtin.bitOr 0 (Builtin.bitAnd x 127)] ++ [], _, 128, _, _, rfl, rfl, rfl, rfl, rfl, rfl, ?_, ?_, .inr ⟨rfl, ?_, ?_, ?_⟩, ?_⟩
      · rw [shr7]; omega
      · rw [shr7]
      · rw [shr7, or_0m]; rfl
      · simp
      · rw [shr7]
        simp only [List.length_append, List.length_cons, List.length_nil]
        omega
      · simp
    · k_steps
      · rename 0 < x => hx
        have hlt : row.length < 30 := by
          by_cases q : row.length = 30
          · rw [q] at hb
            simp only [Nat.reduceMul, Nat.reduceSub, Int.pow_zero] at hb
            omega
          · omega
        refine ⟨_, _, _, _, (x / 128).toNat, rfl, by assumption, by assumption, by omega, x.fdiv (2 ^ Int.toNat 7), _, [Builtin.bitOr 128 (Builtin.bitAnd x 127)] ++ row, _, 128, _, _, rfl, rfl, rfl, rfl, rfl, rfl, ?_, ?_, .inr ⟨rfl, ?_, ?_, ?_⟩, ?_⟩
        · rw [shr7]; omega
        · rw [shr7]
        · rw [shr7, or_128m, ← hgo, baseGo_pos hx]; rfl
        · simp only [List.length_append, List.length_cons, List.length_nil]; omega
        · rw [shr7]
          have p : 210 - 7 * row.length = (210 - 7 * ([Builtin.bitOr 128 (Builtin.bitAnd x 127)] ++ row).length) + 7 := by
            simp only [List.length_append, List.length_cons, List.length_nil]; omega
          rw [p, Int.pow_add] at hb
          generalize (2:Int) ^ (210 - 7 * ([Builtin.bitOr 128 (Builtin.bitAnd x 127)] ++ row).length) = z at *
          omega
        · simp only [List.length_append, List.length_cons, List.length_nil]; omega
      · rename ¬ 0 < x => hx
        rename (bd.size : Int) ≤ 127 => hn
        rw [baseGo_end hx] at hgo
        refine octs_rw ?_ (hret _ _ _ (by assumption) (by assumption))
        rw [hdr_c (by omega) hn, id_or hg0 hg1 hm0 hm1 (by decide) (by decide), hgo]
      · rename ¬ 0 < x => hx
        rename ¬ (bd.size : Int) ≤ 127 => hn
        rename (digGo _ []).length ≤ 4 => hl
        rw [baseGo_end hx] at hgo
        refine octs_rw ?_ (hret _ _ _ (by assumption) (by assumption))
        rw [hdr_d (by omega) hn, id_or hg0 hg1 hm0 hm1 (by decide) (by decide), or_128 (by omega) (by omega), hgo]
  · rename (bd.size : Int) ≤ 127 => hn
    refine octs_rw ?_ (hret _ _ _ (by assumption) (by assumption))
    rw [hdr_a (by omega) hn, id_or hg0 hg1 hm0 hm1 (by omega) (by omega)]
  · rename ¬ (bd.size : Int) ≤ 127 => hn
    rename (digGo _ []).length ≤ 4 => hl
    refine octs_rw ?_ (hret _ _ _ (by assumption) (by assumption))
    rw [hdr_b (by omega) hn, id_or hg0 hg1 hm0 hm1 (by omega) (by omega), or_128 (by omega) (by omega)]
end
end Mine

namespace Mine
open PySem PySem.W PyProof.Rows PySem.Calls PySem.Spec
set_option maxRecDepth 100000
set_option Elab.async false
local macro_rules | `(tactic| walk_at "pad 0") => `(tactic| skip)

theorem Fr.put8 {h₀ h : Heap} {L : Addr} {m : Str → Option Value} {x x2 x3 x4 x5 x6 x7 x8 : Str} {v v2 v3 v4 v5 v6 v7 v8 : Value} (F : Fr h₀ L h m) (e : m x = some v) (e2 : m x2 = some v2) (e3 : m x3 = some v3) (e4 : m x4 = some v4) (e5 : m x5 = some v5) (e6 : m x6 = some v6) (e7 : m x7 = some v7) (e8 : m x8 = some v8) : Fr h₀ L h (fun y => if y = x then some v else if y = x2 then some v2 else if y = x3 then some v3 else if y = x4 then some v4 else if y = x5 then some v5 else if y = x6 then some v6 else if y = x7 then some v7 else if y = x8 then some v8 else m y) :=
  Fr.congr F (putE e (putE e2 (putE e3 (putE e4 (putE e5 (putE e6 (putE e7 (putE e8 fun _ => rfl))))))))

def At1 (E : List Int) (p d : Int) : Prop := E[p.toNat]? = some d
def At2 (E : List Int) (p d c : Int) : Prop := E[p.toNat]? = some d ∧ E[(p + 1).toNat]? = some c
def SlIs (E : List Int) (lo hi : Int) (X : List Int) : Prop := (E.drop lo.toNat).take (hi.toNat - lo.toNat) = X
theorem At1.at {E : List Int} {p d i : Int} (h : At1 E p d) (e : i = p) : E[i.toNat]? = some d := by rw [e]; exact h
theorem At2.fst {E : List Int} {p d c i : Int} (h : At2 E p d c) (e : i = p) : E[i.toNat]? = some d := by rw [e]; exact h.1
theorem At2.snd {E : List Int} {p d c i : Int} (h : At2 E p d c) (e : i = p + 1) : E[i.toNat]? = some c := by rw [e]; exact h.2
theorem sl_ints {E X : List Int} {lo hi lo' hi' : Int} (h : SlIs E lo hi X) (hX : ∀ x ∈ X, 0 ≤ x ∧ x < 256) (e1 : lo' = lo) (e2 : hi' = hi) : KBw.bInts (octs ((E.drop lo'.toNat).take (hi'.toNat - lo'.toNat))) = X := by
  subst e1 e2
  unfold SlIs at h
  rw [h]; exact ints_octs hX


theorem drop_get {E l : List Int} {q : Nat} {c : Int} {r : List Int} (h : E.drop q = l) (hl : l = c :: r) : E[q]? = some c := by
  have : (E.drop q)[0]? = some c := by rw [h, hl]; rfl
  rwa [List.getElem?_drop, Nat.add_zero] at this
theorem drop_len {E l : List Int} {q : Nat} (h : E.drop q = l) (hq : l ≠ []) : E.length = q + l.length := by
  have := congrArg List.length h
  rw [List.length_drop] at this
  have : l.length ≠ 0 := fun e => hq (List.length_eq_zero_iff.mp e)
  omega
/-- what stands behind the tag's octets, a short length -/
theorem tail_short {E Bl : List Int} {q : Nat} {n : Int} (h : E.drop q = lawLen n ++ Bl) (hn : n < 128) : E[q]? = some n ∧ E.length = q + 1 + Bl.length := by
  have e : lawLen n = [n] := by unfold lawLen; rw [if_pos hn]
  rw [e] at h
  refine ⟨drop_get h rfl, ?_⟩
  have := drop_len h (by simp)
  simp only [List.length_append, List.length_cons, List.length_nil] at this
  omega
/-- a long one -/
theorem tail_long {E Bl : List Int} {q : Nat} {n : Int} (h : E.drop q = lawLen n ++ Bl) (hn : ¬ n < 128) (hn2 : n < 2 ^ 32) :
    ∃ k : Int, E[q]? = some (128 + k) ∧ 1 ≤ k ∧ k ≤ 4 ∧ (E.length : Int) = q + 1 + k + Bl.length ∧ SlIs E (q + 1) (q + 1 + k) (digGo n []) ∧ ∀ x ∈ digGo n [], 0 ≤ x ∧ x < 256 := by
  have e : lawLen n = (128 + ((digGo n []).length : Int)) :: digGo n [] := by unfold lawLen; rw [if_neg hn]
  have hk := dig_len (n := n) (by omega) hn2
  rw [e] at h
  have hl := drop_len h (by simp)
  simp only [List.length_append, List.length_cons] at hl
  refine ⟨(digGo n []).length, drop_get h rfl, by omega, by omega, by omega, ?_, dig_mem _ n [] (Nat.le_refl _) (fun _ q => nomatch q)⟩
  unfold SlIs
  have e1 : ((q : Int) + 1).toNat = q + 1 := by omega
  have e2 : ((q : Int) + 1 + ((digGo n []).length : Int)).toNat - ((q : Int) + 1).toNat = (digGo n []).length := by omega
  rw [e2, e1, ← List.drop_drop, h, List.cons_append, List.drop_succ_cons, List.drop_zero, List.take_left]
theorem sl_H {H Bl : List Int} {lo hi : Int} (e0 : lo = 0) (e1 : hi = H.length) : ((H ++ Bl).drop lo.toNat).take (hi.toNat - lo.toNat) = H := by
  subst e0 e1
  simp
theorem sl_B {H Bl : List Int} {lo hi : Int} (e0 : lo = H.length) (e1 : hi = (H ++ Bl).length) : ((H ++ Bl).drop lo.toNat).take (hi.toNat - lo.toNat) = Bl := by
  subst e0 e1
  rw [Int.toNat_natCast, Int.toNat_natCast, List.drop_left, List.length_append, Nat.add_sub_cancel_left, List.take_length]
theorem parse_end {h₀ h : Heap} {L T1 T2 : Addr} {rest : List (Addr × Obj)} {ce x1 x2 x3 len g me t : Int} {b1 b2 c1 c2 : Array UInt8} {a1 a2 a3 a4 a5 a6 a7 : Tok} {k1 k2 : Nat}
    (N : News h₀ L h ((T2, { cls := .type "tuple", data := .seq #[.ref T1, .int ce a1] k1 }) :: (T1, { cls := .type "tuple", data := .seq #[.int x1 a2, .int x2 a3, .int x3 a4, .bytes b1 a5, .bytes b2 a6, .bytes #[] a7] k2 }) :: rest))
    (e0 : ce = len) (e1 : x1 = g) (e2 : x2 = me) (e3 : x3 = t) (e4 : b1 = c1) (e5 : b2 = c2) :
    News h₀ L h ((T2, { cls := .type "tuple", data := .seq #[.ref T1, .int len a1] k1 }) :: (T1, { cls := .type "tuple", data := .seq #[.int g a2, .int me a3, .int t a4, .bytes c1 a5, .bytes c2 a6, .bytes #[] a7] k2 }) :: rest) := by
  subst e0 e1 e2 e3 e4 e5; exact N

section
variable {prog : Program} {w : World} {A : Around} {E : Value → Shared → Prop} {s : Shared} {x : Int} {t u : Tok} {Q : Value → Shared → Prop}
theorem and31 (h : Q (.int (x % 32) s.toks) { s with toks := s.toks + 1 }) : wpAny (model prog w) A (binaryOp .BitAnd (.int x t) (.int 31 u)) Q E s := by
  have e : Builtin.bitAnd x 31 = x % 32 := kbt_mask x 5
  refine and_int ?_
  rw [e]; exact h
theorem and1 (h : Q (.int (x % 2) s.toks) { s with toks := s.toks + 1 }) : wpAny (model prog w) A (binaryOp .BitAnd (.int x t) (.int 1 u)) Q E s := by
  have e : Builtin.bitAnd x 1 = x % 2 := kbt_mask x 1
  refine and_int ?_
  rw [e]; exact h
theorem and127 (h : Q (.int (x % 128) s.toks) { s with toks := s.toks + 1 }) : wpAny (model prog w) A (binaryOp .BitAnd (.int x t) (.int 127 u)) Q E s := by
  have e : Builtin.bitAnd x 127 = x % 128 := kbt_mask x 7
  refine and_int ?_
  rw [e]; exact h
theorem len0 (h : ∀ t' k, Q (.int 0 t') { s with toks := k }) : wpAny (model prog w) A (call (.builtin "len") [.bytes #[] t]) Q E s := len_octs octs_nil (by simp) h
theorem rsh5 (h : Q (.int (x / 32) s.toks) { s with toks := s.toks + 1 }) : wpAny (model prog w) A (binaryOp .RShift (.int x t) (.int 5 u)) Q E s := by
  refine rshift_int (by decide) ?_
  have e : (2 : Int) ^ Int.toNat 5 = 32 := by decide
  rw [e, fdivE x (by decide)]; exact h
theorem rsh6 (h : Q (.int (x / 64) s.toks) { s with toks := s.toks + 1 }) : wpAny (model prog w) A (binaryOp .RShift (.int x t) (.int 6 u)) Q E s := by
  refine rshift_int (by decide) ?_
  have e : (2 : Int) ^ Int.toNat 6 = 64 := by decide
  rw [e, fdivE x (by decide)]; exact h
theorem rsh7 (h : Q (.int (x / 128) s.toks) { s with toks := s.toks + 1 }) : wpAny (model prog w) A (binaryOp .RShift (.int x t) (.int 7 u)) Q E s := by
  refine rshift_int (by decide) ?_
  have e : (2 : Int) ^ Int.toNat 7 = 128 := by decide
  rw [e, fdivE x (by decide)]; exact h
end

section
variable {w : World} {loose : List Str} {mean : ExcName → Option Value} {mg mb : Str → Option Value} {dp un : Nat} {gd : Option (List Code)} {cn : Str} {cs : Scope} {a : Addr} {ccd : Value} {cl : List (Str × Addr)} {outer : List Env} {A₀ : Around} {base h₀ : Heap} {L : Addr} {m : Str → Option Value} {s : Shared} {Q E : Value → Shared → Prop} {rest : List (Addr × Obj)}
theorem ifb_n {b : Array UInt8} {n : Int} {tb : Tok}
    (C : Cx w loose mean mg mb dp un 1 cs outer A₀ base h₀) (F : Fr h₀ L s.heap m) (N : News h₀ L s.heap rest)
    (hb : KBw.bInts b = digGo n []) (h0 : 0 < n) (h1 : n < 2 ^ 32)
    (hret : ∀ (t' : Tok) (h' : Heap) (tk' : Nat), Fr h₀ L h' m → News h₀ L h' rest → Q (.int n t') { s with heap := h', toks := tk' }) :
    wpAny (model PySem.Challenge.rw_eh5002_01.row.prog w) (ktrTop dp un gd cn cs L a ccd cl outer) (call (.ref 37) [.bytes b tb] [(PySem.Str.ofString "signed", .bool false)]) Q E s := by
  refine ifb_ct C F N hb (by have := dig_len h0 h1; omega) ?_
  rw [dig_value (by omega)]
  exact hret

local macro_rules | `(tactic| walk_at "binaryOp BitAnd int int") => `(tactic| (k_here; first | refine Mine.and31 ?_ | refine Mine.and127 ?_ | refine Mine.and1 ?_))
local macro_rules | `(tactic| walk_at "binaryOp RShift int int") => `(tactic| (k_here; first | refine Mine.rsh7 ?_ | refine Mine.rsh5 ?_ | refine Mine.rsh6 ?_))
local macro_rules | `(tactic| walk_at "subscriptTail") => `(tactic| (k_here; (with_reducible show wpAny _ _ (subscriptTail _ _ (Value.bytes _ _) (Value.int _ _)) _ _ _); k_dflt (refine' Mine.item_at ?hk ?hf ?h0 ?hv ?_; (case hk => with_reducible assumption); (case hf => omega); (case h0 => omega); (case hv => first | exact Mine.At1.at (by with_reducible assumption) (by omega) | exact Mine.At2.fst (by with_reducible assumption) (by omega) | exact Mine.At2.snd (by with_reducible assumption) (by omega))); intro t' k'))
local macro_rules | `(tactic| walk_at "subscriptTail") => `(tactic| (k_here; (with_reducible show wpAny _ _ (subscriptTail _ (Expr.Slice _ _ none _) (Value.bytes _ _) (Value.ref _)) _ _ _); (with_reducible rename Fr _ _ _ _ => F'); (with_reducible rename News _ _ _ _ => N'); (refine Mine.slice_at (s := ⟨_, _, _, _, _⟩) F' N' (by with_reducible assumption) (by omega) (by omega) (by omega) (by omega) ?_); clear F' N'; intro h' t' k' F' N'))
local macro_rules | `(tactic| walk_at "call builtin:len") => `(tactic| (k_here; (with_reducible show wpAny _ _ (call (Value.builtin "len") [Value.bytes _ _]) _ _ _); k_dflt (refine Mine.len0 ?_); intro t' k'))
local macro_rules | `(tactic| walk_at "ite") => `(tactic| (k_here; k_openite; k_dflt (first | (refine' PySem.W.ite_pos ?cX ?_; (case cX => first | omega | (simp only [beq_iff_eq, bne_iff_ne, decide_eq_true_eq, Bool.not_eq_true', decide_eq_false_iff_not, beq_eq_false_iff_ne, ne_eq]; omega)); walk_say "CUT") | (refine' PySem.W.ite_neg ?cX ?_; (case cX => first | omega | (simp only [beq_iff_eq, bne_iff_ne, decide_eq_true_eq, Bool.not_eq_true', decide_eq_false_iff_not, beq_eq_false_iff_ne, ne_eq]; omega)); walk_say "CUT"))))
local macro_rules | `(tactic| walk_at "exec While Constant cons nil") => `(tactic| (refine Mine.hold ?_))
local macro_rules | `(tactic| walk_at "call ref") => `(tactic| (k_here; (with_reducible show wpAny _ _ (call (Value.ref 37) _ _) _ _ _); (with_unfolding_all refine' Mine.ifb_n ?C ?F ?N ?hb ?h0 ?h1 ?_); (case C => exact ⟨by k_asm, by k_asm, by k_asm, by first | exact rfl | assumption, by first | omega | ktr_room, by first | omega | ktr_units⟩); (case F => k_asm); (case N => k_asm); (case hb => exact Mine.sl_ints (by with_reducible assumption) (by with_reducible assumption) (by omega) (by omega)); (case h0 => omega); (case h1 => omega); intro t' h' tk' F' N'; (try dsimp only); (try k_fold); (try k_sweep)))

def J45 (EE R : List Int) (t f cv : Int) (t1 t2 : Tok) (rest : List (Addr × Obj)) (n : Nat) (m : Str → Option Value) (news : List (Addr × Obj)) : Prop :=
  ∃ (p tg : Int) (tp tt ts tf tc : Tok),
    m (Str.ofString "tag") = some (.int tg tt) ∧ m (Str.ofString "pointer") = some (.int p tp) ∧ m (Str.ofString "constructed") = some (.int cv tc) ∧ m (Str.ofString "first_octet") = some (.int f tf) ∧
    m (Str.ofString "start") = some (.int 0 ts) ∧ m (Str.ofString "lengths_only") = some (.bool false) ∧ m (Str.ofString "data_len") = some (.int EE.length t2) ∧ m (Str.ofString "encoded_data") = some (.bytes (octs EE) t1) ∧
    news = rest ∧ 1 ≤ p ∧ 0 ≤ tg ∧ scan tg (EE.drop p.toNat) = some (t, R) ∧ n = EE.length - p.toNat

set_option maxHeartbeats 8000000 in
theorem parse_ct {g me t : Int} {Bl : List Int} {t1 t2 : Tok}
    (C : Cx w loose mean mg mb dp un 2 cs outer A₀ base h₀) (F : Fr h₀ L s.heap m) (N : News h₀ L s.heap rest)
    (hg0 : 0 ≤ g) (hg1 : g < 4) (hm0 : 0 ≤ me) (hm1 : me < 2) (h0 : 0 ≤ t) (h1 : t < 2 ^ 200) (hB : ∀ x ∈ Bl, 0 ≤ x ∧ x < 256) (hBl : Bl.length < 1000000) (hH : (lawHdr g me t Bl.length).length ≤ 40)
    (hret : ∀ (T1 T2 : Addr) (a1 a2 a3 a4 a5 a6 a7 : Tok) (k1 k2 : Nat) (h' : Heap) (tk' : Nat), Fr h₀ L h' m →
      News h₀ L h' ((T2, { cls := .type "tuple", data := .seq #[.ref T1, .int (lawHdr g me t Bl.length ++ Bl).length a1] k1 }) ::
        (T1, { cls := .type "tuple", data := .seq #[.int g a2, .int me a3, .int t a4, .bytes (octs (lawHdr g me t Bl.length)) a5, .bytes (octs Bl) a6, .bytes #[] a7] k2 }) :: rest) → Q (.ref T2) { s with heap := h', toks := tk' }) :
    wpAny (model PySem.Challenge.rw_eh5002_01.row.prog w) (ktrTop dp un gd cn cs L a ccd cl outer) (call (.ref 45) [.bytes (octs (lawHdr g me t Bl.length ++ Bl)) t1, .int (lawHdr g me t Bl.length ++ Bl).length t2]) Q E s := by
  obtain ⟨B, X, T, hk, hd, hu⟩ := C
  revert X; k_fill; intro X
  have hC := cLine_is
  generalize hHd : lawHdr g me t Bl.length = H at *
  have hHm : ∀ x ∈ H, 0 ≤ x ∧ x < 256 := by rw [← hHd]; exact hdr_mem hg0 hg1 hm0 hm1 h0 (by omega) (by omega)
  have hEm : ∀ x ∈ H ++ Bl, 0 ≤ x ∧ x < 256 := fun x hx => (List.mem_append.mp hx).elim (hHm x) (hB x)
  have hbE := ints_octs hEm
  generalize hEE : H ++ Bl = EE at *
  have hEl : EE.length = H.length + Bl.length := by rw [← hEE, List.length_append]
  refine wpAny_call ?_
  k_dflt (refine' code_def ?k1 ?k2 ?k3 ?k4 ?k5 ?kA ?kF ?kK ?k6 ?k7 ?k8 ?k9 ?kB ?_ ?c2 ?c3 ?c4 ?c5; (case kA => exact rfl); (case kF => exact rfl); (case kK => assumption); (case k1 => k_asm); (case k2 => k_asm); (case k3 => k_asm); (case k4 => k_asm); (case k5 => k_asm); (case k6 => k_is); (case k7 => k_is); (case k8 => ktr_room); (case k9 => exact binds_K (by k_in) rfl (by k_is) rfl rfl rfl); (case c5 => decide); (case kB => exact locs rfl); (case c2 => exact rfl); (case c3 => exact rfl); (case c4 => exact rfl); k_whole; intro g' L' h' FG' F' N' B' X' T'; (try dsimp only); (try k_fold))
  rename Fr _ _ _ _ => F1
  have F2 := Fr.congr F1 (fun y => look5 y (Str.ofString "depth") (Str.ofString "lengths_only") (Str.ofString "pointer") (Str.ofString "data_len") (Str.ofString "encoded_data") _ _ _ _ _)
  clear F1
  by_cases ht : t < 31
  · have hdr1 : EE.drop 1 = lawLen Bl.length ++ Bl := by
      rw [← hEE, ← hHd]; unfold lawHdr; rw [if_pos ht]; rfl
    have hat0 : EE[0]? = some (64 * g + 32 * me + t) := by
      rw [← hEE, ← hHd]; unfold lawHdr; rw [if_pos ht]; rfl
    by_cases hn : (Bl.length : Int) < 128
    · obtain ⟨hat1, hlen⟩ := tail_short hdr1 hn
      have hA : At2 EE 0 (64 * g + 32 * me + t) Bl.length := ⟨hat0, hat1⟩
      k_steps
      refine hret _ _ _ _ _ _ _ _ _ _ _ _ _ (by assumption) (parse_end (by assumption) ?_ ?_ ?_ ?_ ?_ ?_)
      · omega
      · omega
      · omega
      · omega
      · rw [← hEE]; exact congrArg octs (sl_H (by omega) (by omega))
      · rw [← hEE]; exact congrArg octs (sl_B (by omega) (by rw [List.length_append]; omega))
    · obtain ⟨k, hat1, hk1, hk4, hlen, hsl, hdm⟩ := tail_long hdr1 hn (by omega)
      have hA : At2 EE 0 (64 * g + 32 * me + t) (128 + k) := ⟨hat0, hat1⟩
      k_steps
      refine hret _ _ _ _ _ _ _ _ _ _ _ _ _ (by assumption) (parse_end (by assumption) ?_ ?_ ?_ ?_ ?_ ?_)
      · omega
      · omega
      · omega
      · omega
      · rw [← hEE]; exact congrArg octs (sl_H (by omega) (by omega))
      · rw [← hEE]; exact congrArg octs (sl_B (by omega) (by rw [List.length_append]; omega))
  · have hat0 : EE[0]? = some (64 * g + 32 * me + 31) := by
      rw [← hEE, ← hHd]; unfold lawHdr; rw [if_neg ht]; rfl
    have hdr1 : EE.drop 1 = lawBase t ++ (lawLen Bl.length ++ Bl) := by
      rw [← hEE, ← hHd]; unfold lawHdr; rw [if_neg ht, List.cons_append, List.append_assoc]; rfl
    have hsc : scan 0 (EE.drop 1) = some (t, lawLen Bl.length ++ Bl) := by rw [hdr1]; exact scan_base _ h0
    have hA : At1 EE 0 (64 * g + 32 * me + 31) := hat0
    have hlen1 : (1 : Int) ≤ EE.length := by
      have : EE ≠ [] := fun e => by rw [e] at hat0; cases hat0
      have := List.length_pos_iff.mpr this
      omega
    k_steps
    clear hA
    rename Fr _ _ _ _ => F1
    rename News _ _ _ _ => N1
    refine While_inv2 (J45 EE (lawLen Bl.length ++ Bl) t (64 * g + 32 * me + 31) ((64 * g + 32 * me + 31) / 32 % 2) t1 t2 rest) (n₀ := EE.length - 1) F1 N1 ⟨1, 0, _, _, _, _, _, rfl, rfl, rfl, rfl, rfl, rfl, rfl, rfl, rfl, by decide, by decide, hsc, rfl⟩ ?_
    intro n m₁ news₁ h₁ tk₁ F₂ N₂ ⟨p, tg, tp, tt, ts, tf, tc, em1, em2, em3, em4, em5, em6, em7, em8, en, hp, htg, hscan, hn⟩
    subst en
    replace F₂ := Fr.put8 F₂ em1 em2 em3 em4 em5 em6 em7 em8
    clear F1 N1 em1 em2 em3 em4 em5 em6 em7 em8
    obtain ⟨d, ds, hds⟩ : ∃ d ds, EE.drop p.toNat = d :: ds := by
      cases hq : EE.drop p.toNat with
      | nil => rw [hq] at hscan; cases hscan
      | cons d ds => exact ⟨d, ds, rfl⟩
    rw [hds] at hscan
    have hatd : EE[p.toNat]? = some d := drop_get hds rfl
    have hds1 : EE.drop (p.toNat + 1) = ds := by rw [← List.drop_drop, hds]; rfl
    have hlen2 : EE.length = p.toNat + (ds.length + 1) := drop_len hds (by simp)
    obtain ⟨hd0, hd1⟩ := hEm d (List.mem_of_getElem? hatd)
    rw [scan] at hscan
    by_cases hz : d = 128 ∧ tg = 0
    · rw [if_pos hz] at hscan; cases hscan
    rw [if_neg hz] at hscan
    by_cases hbr : d / 128 = 0
    · rw [if_pos hbr] at hscan
      have hpair := Option.some.inj hscan
      have htv : tg * 128 + d % 128 = t := congrArg Prod.fst hpair
      have hR : ds = lawLen Bl.length ++ Bl := congrArg Prod.snd hpair
      rw [hR] at hds1
      have ep : (p + 1).toNat = p.toNat + 1 := by omega
      by_cases hn : (Bl.length : Int) < 128
      · obtain ⟨hat1, hlen⟩ := tail_short hds1 hn
        have hA : At2 EE p d Bl.length := ⟨hatd, by rw [ep]; exact hat1⟩
        k_steps
        dsimp only [WhileStep2]
        k_steps
        refine hret _ _ _ _ _ _ _ _ _ _ _ _ _ (by assumption) (parse_end (by assumption) ?_ ?_ ?_ ?_ ?_ ?_)
        · omega
        · omega
        · omega
        · omega
        · rw [← hEE]; exact congrArg octs (sl_H (by omega) (by omega))
        · rw [← hEE]; exact congrArg octs (sl_B (by omega) (by rw [List.length_append]; omega))
      · obtain ⟨k, hat1, hk1, hk4, hlen, hsl, hdm⟩ := tail_long hds1 hn (by omega)
        have hA : At2 EE p d (128 + k) := ⟨hatd, by rw [ep]; exact hat1⟩
        k_steps
        dsimp only [WhileStep2]
        k_steps
        refine hret _ _ _ _ _ _ _ _ _ _ _ _ _ (by assumption) (parse_end (by assumption) ?_ ?_ ?_ ?_ ?_ ?_)
        · omega
        · omega
        · omega
        · omega
        · rw [← hEE]; exact congrArg octs (sl_H (by omega) (by omega))
        · rw [← hEE]; exact congrArg octs (sl_B (by omega) (by rw [List.length_append]; omega))
    · rw [if_neg hbr] at hscan
      have hA : At1 EE p d := hatd
      k_steps
      all_goals (
        refine ⟨_, _, _, _, n - 1, rfl, by assumption, by assumption, by omega, p + 1, tg * 128 + d % 128, _, _, _, _, _, rfl, rfl, rfl, rfl, rfl, rfl, rfl, rfl, rfl, by omega, by omega, ?_, by omega⟩
        have ep : (p + 1).toNat = p.toNat + 1 := by omega
        rw [ep, hds1]; exact hscan)
end
end Mine

namespace Mine
open PySem PySem.W PyProof.Rows PySem.Calls PySem.Spec PySem.SeqAt
set_option maxRecDepth 100000
set_option Elab.async false
local macro_rules | `(tactic| walk_at "pad 0") => `(tactic| skip)
local macro_rules | `(tactic| walk_at "pad 1") => `(tactic| skip)
local macro_rules | `(tactic| walk_at "pad 2") => `(tactic| skip)
local macro_rules | `(tactic| walk_at "pad 3") => `(tactic| skip)
local macro_rules | `(tactic| walk_at "pad 4") => `(tactic| skip)
local macro_rules | `(tactic| walk_at "pad 5") => `(tactic| skip)
local macro_rules | `(tactic| walk_at "pad 6") => `(tactic| skip)

theorem sub4 {a b c d : Addr × Obj} {r : List (Addr × Obj)} : ∀ p ∈ r, p ∈ a :: b :: c :: d :: r := fun _ h => .tail _ (.tail _ (.tail _ (.tail _ h)))
section
variable {prog : Program} {w : World} {A : Around} {E : Value → Shared → Prop} {s : Shared} {Q : Value → Shared → Prop}
theorem eqAt_bytes {A : Around} {s : Shared} (b : Array UInt8) (t u : Tok) : EqAt A s (.bytes b t) (.bytes b u) true := fun prog w E Q h => by
  unfold eqBool
  refine wpAny_holding ?_
  refine wpAny_ite_split (fun _ => ?_) (fun _ => ?_)
  · exact wpAny_bind (wpAny_rule (wpAny_pure h))
  · refine wpAny_bind (richCompare_gives (op := .Eq) (typeIs_bytes s b t) (typeIs_bytes s b u) FB.slot_bytes_eq FB.entry_bytes_eq (FB.args_bytes_eq_2 _ _) (gives_bytes_eq b b t u) (fun e => nomatch e) (wpAny_truthy_bool ?_))
    rw [beq_self_eq_true]; exact h
theorem eqAt_int {A : Around} {s : Shared} (x : Int) (t u : Tok) : EqAt A s (.int x t) (.int x u) true := by
  have := EqAt.int_int (A := A) (s := s) x t x u
  rwa [beq_self_eq_true] at this
theorem eq_told {T1 T2 D1 D2 : Addr} {x1 x2 x3 len : Int} {b1 b2 b3 : Array UInt8} {a1 a2 a3 a4 a5 a6 a7 c1 c2 c3 c4 c5 c6 c7 : Tok} {k1 k2 k3 k4 : Nat}
    (h1 : s.heap.get? T1 = some { cls := .type "tuple", data := .seq #[.int x1 a2, .int x2 a3, .int x3 a4, .bytes b1 a5, .bytes b2 a6, .bytes b3 a7] k1 })
    (h2 : s.heap.get? T2 = some { cls := .type "tuple", data := .seq #[.ref T1, .int len a1] k2 })
    (h3 : s.heap.get? D1 = some { cls := .type "tuple", data := .seq #[.int x1 c2, .int x2 c3, .int x3 c4, .bytes b1 c5, .bytes b2 c6, .bytes b3 c7] k3 })
    (h4 : s.heap.get? D2 = some { cls := .type "tuple", data := .seq #[.ref D1, .int len c1] k4 })
    (hne : @Ne Nat T1 D1) (hu : A.units + 8 < cLine) (h : Q (.bool true) s) : wpAny (model prog w) A (compareOp .Eq (.ref T2) (.ref D2)) Q E s := by
  refine eq_tupleAt (e := fun _ => true) ⟨_, h2, rfl, _, rfl⟩ ⟨_, h4, rfl, _, rfl⟩ (by omega) (fun j g1 g2 => ?_) h
  have hj : j = 0 ∨ j = 1 := by
    have : j < 2 := g1
    omega
  rcases hj with rfl | rfl
  · refine EqAt.of_refs hne ?_
    have := RcAt.tuples (A := A.in1) (s := s) (e := fun _ => true) ⟨_, h1, rfl, _, rfl⟩ ⟨_, h3, rfl, _, rfl⟩ (by show A.units + 1 < cLine; omega) (fun j g1 g2 => ?_)
    · exact this
    have hj : j = 0 ∨ j = 1 ∨ j = 2 ∨ j = 3 ∨ j = 4 ∨ j = 5 := by
      have : j < 6 := g1
      omega
    rcases hj with rfl | rfl | rfl | rfl | rfl | rfl
    · exact eqAt_int _ _ _
    · exact eqAt_int _ _ _
    · exact eqAt_int _ _ _
    · exact eqAt_bytes _ _ _
    · exact eqAt_bytes _ _ _
    · exact eqAt_bytes _ _ _
  · exact eqAt_int _ _ _
end
section
variable {w : World} {loose : List Str} {mean : ExcName → Option Value} {mg mb : Str → Option Value} {dp un : Nat} {gd : Option (List Code)} {cn : Str} {cs : Scope} {a : Addr} {ccd : Value} {cl : List (Str × Addr)} {outer : List Env} {A₀ : Around} {base h₀ : Heap} {L : Addr} {m : Str → Option Value} {s : Shared} {Q E : Value → Shared → Prop} {rest : List (Addr × Obj)}

local macro_rules | `(tactic| walk_at "call ref") => `(tactic| (k_here; (with_reducible show wpAny _ _ (call (Value.ref 45) _) _ _ _); (with_unfolding_all refine' Mine.parse_ct ?C ?F ?N ?g0 ?g1 ?m0 ?m1 ?t0 ?t1 ?hB ?hl ?hH ?_); (case C => exact ⟨by k_asm, by k_asm, by k_asm, by first | exact rfl | assumption, by first | omega | ktr_room, by first | omega | ktr_units⟩); (case F => k_asm); (case N => k_asm); (case g0 => assumption); (case g1 => assumption); (case m0 => assumption); (case m1 => assumption); (case t0 => assumption); (case t1 => assumption); (case hB => assumption); (case hl => assumption); (case hH => assumption); intro T1' T2' a1' a2' a3' a4' a5' a6' a7' k1' k2' h' tk' F' N'; (try dsimp only); (try k_fold); (try k_sweep)))
local macro_rules | `(tactic| walk_at "call builtin:len") => `(tactic| (k_here; (with_reducible show wpAny _ _ (call (Value.builtin "len") [Value.bytes (Mine.octs _) _]) _ _ _); k_dflt (refine' Mine.len_octs ?e1 ?z ?_; (case e1 => with_reducible exact rfl); (case z => first | omega | (simp only [List.length_append]; omega))); intro t' k'))

local macro_rules | `(tactic| walk_at "compareOp Eq ref ref") => `(tactic| (k_here; k_dflt (refine' Mine.eq_told ?h1 ?h2 ?h3 ?h4 ?ne ?hu ?_; (case h2 => exact News.get (by k_asm) (by k_mem)); (case h1 => exact News.get (by k_asm) (by k_mem)); (case h4 => exact News.get (by k_asm) (by k_mem)); (case h3 => exact News.get (by k_asm) (by k_mem)); (case ne => omega); (case hu => first | omega | ((simp only [Around.deeper_units]); omega)))))

set_option maxHeartbeats 1000000 in
theorem whole_ct {g me t : Int} {Bl : List Int} {t1 t2 t3 t4 t5 t6 : Tok}
    (C : Cx w loose mean mg mb dp un 3 cs outer A₀ base h₀) (F : Fr h₀ L s.heap m) (N : News h₀ L s.heap rest)
    (hg0 : 0 ≤ g) (hg1 : g < 4) (hm0 : 0 ≤ me) (hm1 : me < 2) (h0 : 0 ≤ t) (h1 : t < 2 ^ 200) (hB : ∀ x ∈ Bl, 0 ≤ x ∧ x < 256) (hBl : Bl.length < 1000000) (hH : (lawHdr g me t Bl.length).length ≤ 40)
    (hret : ∀ (h' : Heap) (tk' : Nat), Fr h₀ L h' m → News h₀ L h' rest → Q (.bool true) { s with heap := h', toks := tk' }) :
    wpAny (model PySem.Challenge.rw_eh5002_01.row.prog w) (ktrTop dp un gd cn cs L a ccd cl outer) (call (.ref 101) [.bytes (octs (lawHdr g me t Bl.length ++ Bl)) t1, .int g t2, .int me t3, .int t t4, .bytes (octs (lawHdr g me t Bl.length)) t5, .bytes (octs Bl) t6]) Q E s := by
  obtain ⟨B, X, T, hk, hd, hu⟩ := C
  revert X; k_fill; intro X
  have hC := cLine_is
  refine wpAny_call ?_
  k_dflt ktr_enter
  k_steps
  exact hret _ _ (by assumption) (cb_drop (by assumption) sub4)
end
end Mine

namespace Mine
open PySem PySem.W PyProof.Rows PySem.Calls PySem.Spec
set_option maxRecDepth 100000
set_option Elab.async false
local macro_rules | `(tactic| walk_at "pad 0") => `(tactic| skip)
local macro_rules | `(tactic| walk_at "pad 1") => `(tactic| skip)
local macro_rules | `(tactic| walk_at "pad 2") => `(tactic| skip)
local macro_rules | `(tactic| walk_at "pad 3") => `(tactic| skip)
local macro_rules | `(tactic| walk_at "pad 4") => `(tactic| skip)
local macro_rules | `(tactic| walk_at "pad 5") => `(tactic| skip)
local macro_rules | `(tactic| walk_at "pad 6") => `(tactic| skip)
local macro_rules | `(tactic| walk_at "pad 7") => `(tactic| skip)
local macro_rules | `(tactic| walk_at "pad 8") => `(tactic| skip)
local macro_rules | `(tactic| walk_at "pad 9") => `(tactic| skip)
theorem getD_bd {l : List Int} {i : Nat} {b : Int} (hb : 0 < b) (h : ∀ x ∈ l, 0 ≤ x ∧ x < b) : 0 ≤ l.getD i 0 ∧ l.getD i 0 < b := by
  rw [List.getD_eq_getElem?_getD]
  cases e : l[i]? with
  | none => exact ⟨Int.le_refl _, hb⟩
  | some x => exact h x (List.mem_of_getElem? e)
section
variable {w : World} {loose : List Str} {mean : ExcName → Option Value} {mg mb : Str → Option Value} {dp un : Nat} {gd : Option (List Code)} {cn : Str} {cs : Scope} {a : Addr} {ccd : Value} {cl : List (Str × Addr)} {outer : List Env} {A₀ : Around} {base h₀ : Heap} {L : Addr} {m : Str → Option Value} {s : Shared} {Q E : Value → Shared → Prop} {rest : List (Addr × Obj)}

local macro_rules | `(tactic| walk_at "call ref") => `(tactic| (k_here; (with_reducible show wpAny _ _ (call (Value.ref 66) _) _ _ _); (with_unfolding_all refine' Mine.take_ct ?C ?F ?N ?hI ?ho ?hS ?hv ?hm ?hM ?_); (case C => exact ⟨by k_asm, by k_asm, by k_asm, by first | exact rfl | assumption, by first | omega | ktr_room, by first | omega | ktr_units⟩); (case F => k_asm); (case N => k_asm); (case hI => with_reducible assumption); (case ho => assumption); (case hS => assumption); (case hv => with_reducible assumption); (case hm => omega); (case hM => omega); intro v' tv' cur' seed' tc' ts' n1' n2' vs' ns' h' tk' hv0' hv1' hI' hv' F' N'; (try dsimp only); (try k_fold); (try k_sweep)))

set_option maxHeartbeats 4000000 in
theorem tag_ct {S r l : Addr} {cur seed : Int} {tc ts : Tok} {n n' : Nat} {vs zs : List Value} {ns ks : List Int}
    (C : Cx w loose mean mg mb dp un 2 cs outer A₀ base h₀) (F : Fr h₀ L s.heap m)
    (N : News h₀ L s.heap ((S, W.listOf #[.ref r, .int cur tc, .int seed ts, .bool true] n) :: (r, W.listOf vs.toArray n') :: rest))
    (hI : IntsAre vs ns) (hoff : OwnOff rest [S, r]) (hSr : @Ne Nat S r) (hinv : StInv ns cur seed)
    (hl : base.IsList l zs.toArray) (hz : IntsAre zs ks) (hk63 : ks.length ≤ 63)
    (hret : ∀ (v : Int) (tv : Tok) (cur' seed' : Int) (tc' ts' : Tok) (n₁ n₁' : Nat) (vs' : List Value) (ns' : List Int) (h' : Heap) (tk' : Nat), 0 ≤ v → v < 2 ^ 200 → IntsAre vs' ns' → StInv ns' cur' seed' →
      Fr h₀ L h' m → News h₀ L h' ((S, W.listOf #[.ref r, .int cur' tc', .int seed' ts', .bool true] n₁) :: (r, W.listOf vs'.toArray n₁') :: rest) → Q (.int v tv) { s with heap := h', toks := tk' }) :
    wpAny (model PySem.Challenge.rw_eh5002_01.row.prog w) (ktrTop dp un gd cn cs L a ccd cl outer) (call (.ref 94) [.ref S, .ref l]) Q E s := by
  obtain ⟨B, X, T, hk, hd, hu⟩ := C
  revert X; k_fill; intro X
  have hC := cLine_is
  have hlen := IntsAre.length hz
  refine wpAny_call ?_
  k_dflt (refine' code_def ?k1 ?k2 ?k3 ?k4 ?k5 ?kA ?kF ?kK ?k6 ?k7 ?k8 ?k9 ?kB ?_ ?c2 ?c3 ?c4 ?c5; (case kA => exact rfl); (case kF => exact rfl); (case kK => assumption); (case k1 => k_asm); (case k2 => k_asm); (case k3 => k_asm); (case k4 => k_asm); (case k5 => k_asm); (case k6 => k_is); (case k7 => k_is); (case k8 => ktr_room); (case k9 => exact BindsTo.of_eq rfl); (case c5 => decide); (case kB => exact locs rfl); (case c2 => exact rfl); (case c3 => exact rfl); (case c4 => exact rfl); k_whole; intro g' L' h' FG' F' N' B' X' T'; (try dsimp only); (try k_lift B'); (try k_fold))
  k_steps
  · refine hret _ _ _ _ _ _ _ _ _ ?kn0 _ _ ?_ ?_ ?ka0 ?kb0 (by assumption) (by assumption)
    case ka0 => with_reducible assumption
    case kb0 => with_reducible assumption
    · omega
    · omega
  · refine hret _ _ _ _ _ _ _ _ _ ?kn1 _ _ (fmod_lo _ (by decide)) (Int.lt_of_lt_of_le (fmod_hi _ (by decide)) (by decide)) ?ka1 ?kb1 (by assumption) (by assumption)
    case ka1 => with_reducible assumption
    case kb1 => with_reducible assumption
  · refine hret _ _ _ _ _ _ _ _ _ ?kn2 _ _ (getD_bd (b := 2 ^ 200) (by decide) ?_).1 (getD_bd (b := 2 ^ 200) (by decide) ?_).2 ?ka2 ?kb2 (by assumption) (by assumption)
    case ka2 => with_reducible assumption
    case kb2 => with_reducible assumption
    · decide
    · decide
  · refine hret _ _ _ _ _ _ _ _ _ ?kn3 _ _ (getD_bd (b := 2 ^ 200) (by decide) ?_).1 (getD_bd (b := 2 ^ 200) (by decide) ?_).2 ?ka3 ?kb3 (by assumption) (by assumption)
    case ka3 => with_reducible assumption
    case kb3 => with_reducible assumption
    · decide
    · decide
end
end Mine

namespace Mine
open PySem PySem.W PyProof.Rows PySem.Calls PySem.Spec
set_option maxRecDepth 100000
set_option Elab.async false
section
variable {prog : Program} {w : World} {A : Around} {h₀ : Heap} {L : Addr} {m : Str → Option Value} {env : Env} {elt : Expr} {x : Str} {scope : Scope} {cl : List (Str × Addr)} {s : Shared} {S : List (Addr × Obj) → Prop} {P : Nat → Value → Prop} {Fin : List Value → List (Addr × Obj) → Prop}
theorem comp_rest (Inv : Nat → List Value → List (Addr × Obj) → Prop) (n : Nat)
    (step : ∀ i ys news, i < n → Inv i ys news → ∀ v I oI C oC D m₂ h tk (E' : Value → Shared → Prop), P i v → LCg.NsObj oC m₂ → m₂ x = some v → Fr h₀ L h m → News h₀ L h ((I, oI) :: (C, oC) :: (D, LCg.lst ys) :: news) → LCg.Off3 I C D news → ((@Ne Nat I C) ∧ (@Ne Nat I D) ∧ (@Ne Nat C D)) →
      wpAny (model prog w) A (eval elt (compEnvC scope cl C env)) (LCg.CompEnd h₀ L m { s with heap := h, toks := tk } I oI C oC D (LCg.lst ys) S (fun y news' => Inv (i + 1) (ys ++ [y]) news')) E' { s with heap := h, toks := tk })
    (fin : ∀ ys news, Inv n ys news → Fin ys news) :
    ∀ k i ys news, i + k = n → Inv i ys news → LCg.CompRest prog w A h₀ L m env elt x scope cl s S P Fin k i ys news := by
  intro k
  induction k with
  | zero =>
    intro i ys news e hi
    have : i = n := by omega
    subst this
    exact fin ys news hi
  | succ k ih =>
    intro i ys news e hi v I oI C oC D m₂ h tk E' hP hns hx F N off ne
    refine wpAny_mono (step i ys news (by omega) hi v I oI C oC D m₂ h tk E' hP hns hx F N off ne) (fun y s₂ hq => ?_) fun _ _ q => q
    obtain ⟨h', tk', news', e1, F', N', off', hS, hr⟩ := hq
    exact ⟨h', tk', news', e1, F', N', off', hS, ih (i + 1) _ _ (by omega) hr⟩
end
end Mine

namespace Mine
open PySem PySem.W PyProof.Rows PySem.Calls PySem.Spec
set_option maxRecDepth 100000
set_option Elab.async false
local macro_rules | `(tactic| walk_at "pad 0") => `(tactic| skip)
local macro_rules | `(tactic| walk_at "pad 1") => `(tactic| skip)
local macro_rules | `(tactic| walk_at "pad 2") => `(tactic| skip)
local macro_rules | `(tactic| walk_at "pad 3") => `(tactic| skip)
local macro_rules | `(tactic| walk_at "pad 4") => `(tactic| skip)
local macro_rules | `(tactic| walk_at "pad 5") => `(tactic| skip)
local macro_rules | `(tactic| walk_at "pad 6") => `(tactic| skip)
local macro_rules | `(tactic| walk_at "pad 7") => `(tactic| skip)
local macro_rules | `(tactic| walk_at "pad 8") => `(tactic| skip)
theorem of_allLt {d : Addr} : ∀ {l : List (Addr × Obj)}, AllLt d l → ∀ p ∈ l, @LT.lt Nat _ p.1 d
  | [], _, _, h => nomatch h
  | _ :: _, h, _, .head _ => h.1
  | _ :: _, h, p, .tail _ hp => of_allLt h.2 p hp
theorem off1_mem {d : Addr} : ∀ {l : List (Addr × Obj)}, LCg.Off1 d l → ∀ p ∈ l, p.1 ≠ d
  | [], _, _, h => nomatch h
  | _ :: _, h, _, .head _ => h.1
  | _ :: _, h, p, .tail _ hp => off1_mem h.2 p hp
theorem sub21 {a b c : Addr × Obj} {r : List (Addr × Obj)} : ∀ p ∈ a :: b :: r, p ∈ a :: b :: c :: r := fun _ h => by
  cases h with
  | head => exact .head _
  | tail _ h => cases h with
    | head => exact .tail _ (.head _)
    | tail _ h => exact .tail _ (.tail _ (.tail _ h))
section
variable {w : World} {loose : List Str} {mean : ExcName → Option Value} {mg mb : Str → Option Value} {dp un : Nat} {gd : Option (List Code)} {cn : Str} {cs : Scope} {a : Addr} {ccd : Value} {cl : List (Str × Addr)} {outer : List Env} {A₀ : Around} {base h₀ : Heap} {L : Addr} {m : Str → Option Value} {s : Shared} {Q E : Value → Shared → Prop} {rest : List (Addr × Obj)}

local macro_rules | `(tactic| walk_at "eval ListComp") => `(tactic| (refine Mine.hold ?_))
local macro_rules | `(tactic| walk_at "CompSrc") => `(tactic| (refine Mine.hold ?_))
local macro_rules | `(tactic| walk_at "CompEnd") => `(tactic| (refine Mine.hold ?_))

set_option maxHeartbeats 4000000 in
theorem start_ct {l : Addr} {vs : List Value} {ns : List Int}
    (C : Cx w loose mean mg mb dp un 1 cs outer A₀ base h₀) (F : Fr h₀ L s.heap m) (N : News h₀ L s.heap rest)
    (hl : base.IsList l vs.toArray) (hI : IntsAre vs ns) (hn : ns.length ≤ 63)
    (hret : ∀ (S r : Addr) (cur' seed' : Int) (tc' ts' : Tok) (n₁ n₁' : Nat) (vs' : List Value) (ns' : List Int) (h' : Heap) (tk' : Nat), IntsAre vs' ns' → StInv ns' cur' seed' → @Ne Nat S r → OwnOff rest [S, r] →
      Fr h₀ L h' m → News h₀ L h' ((S, W.listOf #[.ref r, .int cur' tc', .int seed' ts', .bool true] n₁) :: (r, W.listOf vs'.toArray n₁') :: rest) → Q (.ref S) { s with heap := h', toks := tk' }) :
    wpAny (model PySem.Challenge.rw_eh5002_01.row.prog w) (ktrTop dp un gd cn cs L a ccd cl outer) (call (.ref 59) [.ref l]) Q E s := by
  obtain ⟨B, X, T, hk, hd, hu⟩ := C
  revert X; k_fill; intro X
  have hC := cLine_is
  have hlen := IntsAre.length hI
  refine wpAny_call ?_
  k_dflt (refine' code_def ?k1 ?k2 ?k3 ?k4 ?k5 ?kA ?kF ?kK ?k6 ?k7 ?k8 ?k9 ?kB ?_ ?c2 ?c3 ?c4 ?c5; (case kA => exact rfl); (case kF => exact rfl); (case kK => assumption); (case k1 => k_asm); (case k2 => k_asm); (case k3 => k_asm); (case k4 => k_asm); (case k5 => k_asm); (case k6 => k_is); (case k7 => k_is); (case k8 => ktr_room); (case k9 => exact BindsTo.of_eq rfl); (case c5 => decide); (case kB => exact locs rfl); (case c2 => exact rfl); (case c3 => exact rfl); (case c4 => exact rfl); k_whole; intro g' L' h' FG' F' N' B' X' T'; (try dsimp only); (try k_lift B'); (try k_fold))
  k_steps
  refine LCg.ListComp_U (F₀ := by k_asm) (by rfl) (by decide) (by rfl) (by decide) (by rfl) ?_
  k_steps
  rename_i D1 ws1 hh1 F1 N1 l1 hI1 hC1 hL1
  have hws := IntsAre.length hI1
  have h30 : ws1.length ≤ 30 := by rw [hws, hC1]; omega
  refine LCg.CompSrc.ledger (by rfl) (by k_asm) (by k_asm) (by k_mem) (by rw [List.size_toArray, PySem.sizeLine_eq]; omega) (fun g => ?_)
  refine comp_rest (fun i ys nw => nw = (D1, W.listOf ws1.toArray 0) :: rest ∧ ∃ zs : List Int, IntsAre ys zs ∧ zs.length = i ∧ ∀ z ∈ zs, 0 ≤ z ∧ z < 2147483648) ws1.toArray.size ?_ ?_ _ 0 [] _ (Nat.zero_add _) ⟨rfl, [], .nil, rfl, fun _ q => nomatch q⟩
  · intro i ys nw hi ⟨en, zs, hz, hzl, hzb⟩ v I oI C oC D m₂ h tk E' hP hns hx F2 N2 off ne
    subst en
    rw [List.size_toArray] at hi
    obtain ⟨t0, ht0⟩ := hI1.get i ((List.take 30 ns)[i]'(by omega)) (List.getElem?_eq_getElem _)
    have hv : v = .int ((List.take 30 ns)[i]'(by omega)) t0 := by
      have hP' : ws1[i]? = some v := by simpa using hP
      rw [ht0] at hP'; exact (Option.some.inj hP').symm
    subst hv
    generalize (List.take 30 ns)[i]'(by omega) = kv at *
    clear F1 N1
    k_steps
    refine LCg.CompEnd.intro (by assumption) (by assumption) _ (fun _ h => h) off (.inr ⟨_, .head _, rfl, _, rfl⟩) ⟨rfl, zs ++ [_], hz.append (.cons _ _ .nil), ?_, ?_⟩
    · rw [List.length_append, hzl]; rfl
    · intro z hz
      rcases List.mem_append.mp hz with hz | hz
      · exact hzb z hz
      · rw [List.mem_singleton.mp hz]
        have h1 := fmod_lo (if kv < 0 then -kv else kv) (n := 1000000007) (by decide)
        have h2 := fmod_hi (if kv < 0 then -kv else kv) (n := 1000000007) (by decide)
        omega
  · rintro ys nw ⟨en, zs, hz, hzl, hzb⟩
    subst en
    unfold LCg.FinE
    intro D h tk F2 N2 off
    clear F1 N1
    dsimp only
    k_steps
    rename_i hlt _ _ _ _
    obtain ⟨hlt1, _, hlt2⟩ := hlt
    refine hret _ _ _ _ _ _ _ _ ys zs _ _ hz ?st (Nat.ne_of_gt hlt1) ?off (by assumption) (cb_drop (by assumption) sub21)
    case st => exact ⟨by decide, by decide, by omega, by omega, hzb, by rw [hzl, List.size_toArray]; exact h30⟩
    case off =>
      intro p hp b hb
      rcases List.mem_cons.mp hb with rfl | hb
      · exact Nat.ne_of_lt (of_allLt hlt2 p hp)
      · rw [List.mem_singleton.mp hb]
        exact off1_mem off p (.tail _ hp)
end
end Mine

namespace Mine
open PySem PySem.W PyProof.Rows PySem.Calls PySem.Spec
set_option maxRecDepth 100000
set_option Elab.async false
section
variable {prog : Program} {w : World} {A : Around} {E : Value → Shared → Prop} {s : Shared} {env : Env} {h₀ : Heap} {x : Str} {body : List Stmt} {Q : Flow → Shared → Prop}

def GrowEnd (h₀ : Heap) (L : Addr) (J : (Str → Option Value) → List (Addr × Obj) → Prop) (own : List (Addr × Obj)) (s₁ s₂ : Shared) : Prop :=
  ∃ h' tk m' news' nx, s₂ = { s₁ with heap := h', toks := tk } ∧ Fr h₀ L h' m' ∧ News h₀ L h' news' ∧ (∀ p ∈ nx, p ∈ news') ∧ (∀ p ∈ own, p ∈ news') ∧ OwnOff own (nx.map (·.1)) ∧ J m' nx
def GrowPost (h₀ : Heap) (L : Addr) (J : (Str → Option Value) → List (Addr × Obj) → Prop) (own : List (Addr × Obj)) (s₁ : Shared) (Q : Flow → Shared → Prop) (f : Flow) (s₂ : Shared) : Prop :=
  match f with
  | .ret v => Q (.ret v) s₂
  | .brk => Q .next s₂
  | _ => GrowEnd h₀ L J own s₁ s₂

theorem iter_grow {r : Addr} {a₀ b₀ : Int} {t₀ u₀ v₀ : Tok} {n : Nat} {m₀ : Str → Option Value} {news : List (Addr × Obj)}
    (J : Nat → (Str → Option Value) → List (Addr × Obj) → Prop)
    (hh : A.handled = none) (hr : IsRange s.heap r a₀ b₀ 1 t₀ u₀ v₀) (hsmall : Builtin.Range.small a₀ b₀ 1 = true) (hn : Builtin.Range.rangeSize a₀ b₀ 1 = (n : Int)) (F : Fr h₀ env.locals s.heap m₀) (N : News h₀ env.locals s.heap news) (hJ : J 0 m₀ news)
    (turn : ∀ i t m₁ nx h tk I o, i < n → OwnOff [(I, o)] (nx.map (·.1)) → J i m₁ nx → Fr h₀ env.locals h (fun y => if y = x then some (.int (a₀ + (i : Nat)) t) else m₁ y) → News h₀ env.locals h (nx ++ [(I, o)]) →
      wpAny (model prog w) A (execs body env) (GrowPost h₀ env.locals (J (i + 1)) [(I, o)] { s with heap := h, toks := tk } Q) E { s with heap := h, toks := tk })
    (done : ∀ m₁ nx h tk, J n m₁ nx → Fr h₀ env.locals h m₁ → News h₀ env.locals h nx → Q .next { s with heap := h, toks := tk }) :
    wpAny (model prog w) A (pyIter (.ref r)) (fun it s₂ => LoopAtV prog w A h₀ env x body Q E it s₂) E s := by
  refine wpAny_pyIter_range hr hsmall ?_
  have W : Walks prog w A s.heap.objs.size [s.heap.objs.size] [s.heap.objs.size] n (fun i v => i < n ∧ ∃ t, v = .int (a₀ + i * 1) t)
      (fun i h => IsRangeIter h s.heap.objs.size (a₀ + (i : Nat) * 1) ((n : Int) - (i : Nat)) 1) := (Walks.range hh _ a₀ 1 n).bound
  refine ⟨_, _, _, n, _, _, m₀, news, J, rfl, W, ?_, ?_, ?_, (by show IsRangeIter _ _ _ _ _; rw [hn]; simpa using Heap.get?_push_size _ rfl), F.push _, (fun p hp => ⟨Heap.get?_push_of_some _ (N p hp).1, (N p hp).2⟩), hJ, ?_, ?_⟩
  · intro hm
    exact absurd F.ns.lt ((List.mem_singleton.mp hm) ▸ Nat.lt_irrefl _)
  · intro b hb
    rw [List.mem_singleton.mp hb]
    exact next_is_new F
  · intro p hp hI
    exact absurd (Heap.lt_size (N p hp).1) ((List.mem_singleton.mp hI) ▸ Nat.lt_irrefl _)
  · rintro i v m₁ news₁ s₁ own ⟨hh', tk', rfl⟩ hin ⟨_, t, rfl⟩ hJ₁ hoff hown hget hall hst F₁ N₁
    have hI : ∃ o, hh'.get? s.heap.objs.size = some o := ⟨_, hst⟩
    obtain ⟨o, ho⟩ := hI
    have hmem : (s.heap.objs.size, o) ∈ own := hall _ (List.mem_singleton.mpr rfl) (next_is_new F) o ho
    have hone : ∀ p ∈ own, p = (s.heap.objs.size, o) := fun p hp => by
      have h1 := List.mem_singleton.mp (hown p hp)
      have h2 : hh'.get? p.1 = some p.2 := hget p hp
      rw [h1, ho] at h2
      exact Prod.ext h1 (Option.some.inj h2).symm
    have N₂ : News h₀ env.locals hh' (news₁ ++ [(s.heap.objs.size, o)]) := fun p hp => by
      rcases List.mem_append.mp hp with h | h
      · exact N₁ p (List.mem_append.mpr (.inr h))
      · rw [List.mem_singleton.mp h]; exact N₁ _ (List.mem_append.mpr (.inl hmem))
    have hsep : OwnOff [(s.heap.objs.size, o)] (news₁.map (·.1)) := fun p hp b hb e => by
      obtain ⟨q, hq, rfl⟩ := List.mem_map.mp hb
      rw [List.mem_singleton.mp hp] at e
      exact hoff q hq (List.mem_singleton.mpr e.symm)
    have F₃ : Fr h₀ env.locals hh' (fun y => if y = x then some (.int (a₀ + (i : Nat)) t) else m₁ y) := by
      have e : a₀ + (i : Int) * 1 = a₀ + (i : Nat) := by omega
      rw [← e]; exact F₁
    refine wpAny_mono (turn i t m₁ news₁ hh' tk' _ o hin hsep hJ₁ F₃ N₂) (fun f s₂ p => ?_) fun _ _ e => e
    have fin : GrowEnd h₀ env.locals (J (i + 1)) [(s.heap.objs.size, o)] { s with heap := hh', toks := tk' } s₂ → LoopStepU h₀ env.locals [s.heap.objs.size] own (J (i + 1)) { s with heap := hh', toks := tk' } .next s₂ := by
      rintro ⟨h', tk, m', news', nx, e, F', N', hn, ho', ha, hm⟩
      refine ⟨rfl, h', tk, m', nx, e, F', fun p hp => N' p ((List.mem_append.mp hp).elim (fun q => by rw [hone p q]; exact ho' _ (.head _)) (hn p)), fun p hp hq => ?_, hm⟩
      exact ha _ (.head _) p.1 (List.mem_map.mpr ⟨p, hp, rfl⟩) (List.mem_singleton.mp hq).symm
    cases f with
    | ret v => exact .ret p
    | brk => exact .brk p
    | next => exact .next (fin p)
    | cont => exact .cont (fin p)
  · rintro h' tk m' news' F' N' _ hJ'
    exact done m' news' h' tk hJ' F' N'
end
section
variable {prog : Program} {w : World} {A : Around} {E : Value → Shared → Prop} {s : Shared} {h₀ : Heap} {L : Addr} {m : Str → Option Value} {news : List (Addr × Obj)}
theorem range_1 {n : Int} {t : Tok} {Q : Value → Shared → Prop} (F : Fr h₀ L s.heap m) (N : News h₀ L s.heap news)
    (h : ∀ r h' t₀ v₀ k, IsRange h' r 0 n 1 t₀ t v₀ → Fr h₀ L h' m → News h₀ L h' news → Q (.ref r) { s with heap := h', toks := k }) : wpAny (model prog w) A (call (.type "range") [.int n t]) Q E s :=
  call_range_1 (h _ _ _ _ _ (Heap.get?_push_size _ rfl) (F.push _) (fun p hp => ⟨Heap.get?_push_of_some _ (N p hp).1, (N p hp).2⟩))
end
theorem Fr.in5 {h₀ h : Heap} {L : Addr} {m : Str → Option Value} {y0 x x2 x3 x4 x5 : Str} {v0 v v2 v3 v4 v5 : Value} (F : Fr h₀ L h (fun y => if y = y0 then some v0 else m y)) (e : m x = some v) (e2 : m x2 = some v2) (e3 : m x3 = some v3) (e4 : m x4 = some v4) (e5 : m x5 = some v5) : Fr h₀ L h (fun y => if y = y0 then some v0 else if y = x then some v else if y = x2 then some v2 else if y = x3 then some v3 else if y = x4 then some v4 else if y = x5 then some v5 else m y) :=
  Fr.congr F fun y => by
    by_cases q : y = y0
    · rw [if_pos q, if_pos q]
    · rw [if_neg q, if_neg q]
      exact putE e (putE e2 (putE e3 (putE e4 (putE e5 fun _ => rfl)))) y
theorem Fr.in3 {h₀ h : Heap} {L : Addr} {m : Str → Option Value} {y0 x x2 x3 : Str} {v0 v v2 v3 : Value} (F : Fr h₀ L h (fun y => if y = y0 then some v0 else m y)) (e : m x = some v) (e2 : m x2 = some v2) (e3 : m x3 = some v3) : Fr h₀ L h (fun y => if y = y0 then some v0 else if y = x then some v else if y = x2 then some v2 else if y = x3 then some v3 else m y) :=
  Fr.congr F fun y => by
    by_cases q : y = y0
    · rw [if_pos q, if_pos q]
    · rw [if_neg q, if_neg q]
      exact putE e (putE e2 (putE e3 fun _ => rfl)) y
end Mine

namespace Mine
open PySem PySem.W PyProof.Rows PySem.Calls PySem.Spec PySem.SeqAt
set_option maxRecDepth 100000
set_option Elab.async false
section
variable {w : World} {loose : List Str} {mean : ExcName → Option Value} {mg mb : Str → Option Value} {dp un : Nat} {gd : Option (List Code)} {cn : Str} {cs : Scope} {a : Addr} {ccd : Value} {cl : List (Str × Addr)} {outer : List Env} {A₀ : Around} {base h₀ : Heap} {L : Addr} {m : Str → Option Value} {s : Shared} {Q E : Value → Shared → Prop} {rest : List (Addr × Obj)}
theorem rot1 {a b c : Addr × Obj} {r : List (Addr × Obj)} : ∀ p ∈ b :: c :: a :: r, p ∈ a :: b :: c :: r := by
  intro p h; simp only [List.mem_cons] at h ⊢; rcases h with h | h | h | h <;> simp [h]

inductive Wrap (Bl : List Int) : List (Addr × Obj) → List Int → Prop
  | base : Wrap Bl [] Bl
  | step {os : List (Addr × Obj)} {R : List Int} {A : Addr} {g t : Int} {tg tt th : Tok} {k : Nat} : Wrap Bl os R → 0 ≤ g → g < 4 → 0 ≤ t → t < 2 ^ 200 → (lawHdr g 1 t R.length).length ≤ 40 →
      Wrap Bl ((A, W.listOf #[.int g tg, .int t tt, .bytes (octs (lawHdr g 1 t R.length)) th] k) :: os) (lawHdr g 1 t R.length ++ R)
theorem Wrap.len {Bl : List Int} {os : List (Addr × Obj)} {R : List Int} (h : Wrap Bl os R) : R.length ≤ Bl.length + 40 * os.length := by
  induction h with
  | base => simp
  | step _ _ _ _ _ h ih => rw [List.length_append, List.length_cons]; omega
theorem Wrap.mem {Bl : List Int} {os : List (Addr × Obj)} {R : List Int} (hB : ∀ x ∈ Bl, 0 ≤ x ∧ x < 256) (h : Wrap Bl os R) : os.length ≤ 10 → Bl.length ≤ 200 → ∀ x ∈ R, 0 ≤ x ∧ x < 256 := by
  induction h with
  | base => intro _ _; exact hB
  | step w g0 g1 t0 t1 _ ih =>
    intro h1 h2 x hx
    rw [List.length_cons] at h1
    have := w.len
    rcases List.mem_append.mp hx with hx | hx
    · exact hdr_mem g0 g1 (by omega) (by omega) t0 (by omega) (by omega) x hx
    · exact ih (by omega) h2 x hx
theorem off_new {S r D : Addr} {o : Obj} {rest : List (Addr × Obj)} (h : @LT.lt Nat _ S D ∧ @LT.lt Nat _ r D ∧ AllLt D rest) (ho : OwnOff rest [S, r]) : OwnOff ((D, o) :: rest) [S, r] := by
  intro p hp b hb
  rcases List.mem_cons.mp hp with rfl | hp
  · rcases List.mem_cons.mp hb with rfl | hb
    · exact Nat.ne_of_gt h.1
    · rw [List.mem_singleton.mp hb]; exact Nat.ne_of_gt h.2.1
  · exact ho p hp b hb

section
variable {prog : Program} {w : World} {A : Around} {E : Value → Shared → Prop} {s : Shared} {h₀ : Heap} {L : Addr} {m : Str → Option Value} {news : List (Addr × Obj)}
theorem ne_octs {b : Array UInt8} {t u : Tok} {Q : Value → Shared → Prop} (h : Q (.bool false) s) : wpAny (model prog w) A (compareOp .NotEq (.bytes b t) (.bytes b u)) Q E s := by
  refine ne_bytes ?_
  rw [bne_self_eq_false]; exact h
theorem eq_octs {b : Array UInt8} {t u : Tok} {Q : Value → Shared → Prop} (h : Q (.bool true) s) : wpAny (model prog w) A (compareOp .Eq (.bytes b t) (.bytes b u)) Q E s := by
  refine eq_bytes ?_
  rw [beq_self_eq_true]; exact h
theorem bytes_octs {l : Addr} {vs : List Value} {ns : List Int} {n : Nat} {Q : Value → Shared → Prop} (F : Fr h₀ L s.heap m) (N : News h₀ L s.heap ((l, W.listOf vs.toArray n) :: news)) (hi : IntsAre vs ns) (hr : ∀ n ∈ ns, 0 ≤ n ∧ n < 256) (hz : ns.length ≤ 1000) (hh : A.handled = none)
    (h : ∀ h' t k, Fr h₀ L h' m → News h₀ L h' news → Q (.bytes (octs ns) t) { s with heap := h', toks := k }) : wpAny (model prog w) A (call (.type "bytes") [.ref l]) Q E s :=
  bytes_K F N ⟨_, (N _ (.head _)).1, rfl, n, rfl⟩ hi hr (by rw [IntsAre.length hi, sizeLine_eq]; omega) hh fun h' t k F' N' _ => h h' t k F' (cb_drop N' sub1)
end

theorem wrap_off {S r D I : Addr} {oD o : Obj} {X rest1 : List (Addr × Obj)} (hall : ∀ p ∈ rest1, p ∈ X ∨ p = (I, o)) (hof : OwnOff X [S, r]) (hofD : OwnOff X [D]) (hDS : @Ne Nat D S) (hDr : @Ne Nat D r) (hIS : @Ne Nat I S) (hIr : @Ne Nat I r) (hID : @Ne Nat I D) :
    OwnOff ((D, oD) :: rest1) [S, r] ∧ ∀ p ∈ rest1, p.1 ≠ D := by
  constructor
  · intro p hp b hb
    rcases List.mem_cons.mp hp with rfl | hp
    · rcases List.mem_cons.mp hb with rfl | hb
      · exact hDS
      · rw [List.mem_singleton.mp hb]; exact hDr
    rcases hall p hp with hp | rfl
    · exact hof p hp b hb
    · rcases List.mem_cons.mp hb with rfl | hb
      · exact hIS
      · rw [List.mem_singleton.mp hb]; exact hIr
  · intro p hp
    rcases hall p hp with hp | rfl
    · exact hofD p hp _ (.head _)
    · exact hID
def J1 (S r l D : Addr) (Bl : List Int) (tb : Tok) (rest : List (Addr × Obj)) (i : Nat) (m : Str → Option Value) (nx : List (Addr × Obj)) : Prop :=
  ∃ (cur seed : Int) (tc ts : Tok) (n n' k : Nat) (vs : List Value) (ns : List Int) (os : List (Addr × Obj)) (R : List Int) (tr : Tok),
    m (Str.ofString "state") = some (.ref S) ∧ m (Str.ofString "script") = some (.ref l) ∧ m (Str.ofString "body") = some (.bytes (octs Bl) tb) ∧ m (Str.ofString "layers") = some (.ref D) ∧ m (Str.ofString "row") = some (.bytes (octs R) tr) ∧
    nx = (S, W.listOf #[.ref r, .int cur tc, .int seed ts, .bool true] n) :: (r, W.listOf vs.toArray n') :: (D, W.listOf (os.reverse.map fun p => Value.ref p.1).toArray k) :: (os ++ rest) ∧
    IntsAre vs ns ∧ StInv ns cur seed ∧ Wrap Bl os R ∧ os.length = i ∧ OwnOff (os ++ rest) [S, r] ∧ OwnOff (os ++ rest) [D] ∧ @Ne Nat D S ∧ @Ne Nat D r
theorem small_n {n : Int} (h0 : 0 ≤ n) (h : n ≤ 10) : Builtin.Range.small 0 n 1 = true := small_one (by omega) (by omega) (by omega) (by omega)

theorem wrap_next {g' h' : Heap} {L' S r l D I A' : Addr} {Bl R : List Int} {tb tr tg tt th tc' ts' : Tok} {rest rest1 os : List (Addr × Obj)} {i n1 n2 k tk k0 : Nat} {m : Str → Option Value} {o : Obj} {s₁ : Shared} {dv : Array Value} {cur' seed' g t : Int} {vs' : List Value} {ns' : List Int}
    (N : News g' L' h' ((A', W.listOf #[.int g tg, .int t tt, .bytes (octs (lawHdr g 1 t R.length)) th] k0) :: (S, W.listOf #[.ref r, .int cur' tc', .int seed' ts', .bool true] n1) :: (r, W.listOf vs'.toArray n2) :: (D, W.listOf (dv.push (.ref A')) (k + 1)) :: rest1))
    (F : Fr g' L' h' m) (e1 : m (Str.ofString "state") = some (.ref S)) (e2 : m (Str.ofString "script") = some (.ref l)) (e3 : m (Str.ofString "body") = some (.bytes (octs Bl) tb)) (e4 : m (Str.ofString "layers") = some (.ref D)) (e5 : m (Str.ofString "row") = some (.bytes (octs (lawHdr g 1 t R.length ++ R)) tr))
    (hI : IntsAre vs' ns') (hv : StInv ns' cur' seed') (hW : Wrap Bl os R) (hg0 : 0 ≤ g) (hg1 : g < 4) (ht0 : 0 ≤ t) (ht1 : t < 2 ^ 200) (hl : (lawHdr g 1 t R.length).length ≤ 40)
    (hos : os.length = i) (hvv : (os.reverse.map fun p => Value.ref p.1).toArray = dv) (hof : OwnOff (os ++ rest) [S, r]) (hofD : OwnOff (os ++ rest) [D]) (hDS : @Ne Nat D S) (hDr : @Ne Nat D r)
    (hIS : @Ne Nat I S) (hIr : @Ne Nat I r) (hID : @Ne Nat I D) (hsub : ∀ p ∈ os ++ rest, p ∈ rest1) (hIm : (I, o) ∈ rest1) (hI1 : ∀ p ∈ os ++ rest, p.1 ≠ I)
    (hA : @LT.lt Nat _ S A' ∧ @LT.lt Nat _ r A' ∧ @LT.lt Nat _ D A' ∧ AllLt A' rest1) :
    GrowEnd g' L' (J1 S r l D Bl tb rest (i + 1)) [(I, o)] s₁ { s₁ with heap := h', toks := tk } := by
  have hIA : @LT.lt Nat _ I A' := of_allLt hA.2.2.2 _ hIm
  refine ⟨h', tk, m, _, (S, W.listOf #[.ref r, .int cur' tc', .int seed' ts', .bool true] n1) :: (r, W.listOf vs'.toArray n2) :: (D, W.listOf (dv.push (.ref A')) (k + 1)) :: ((A', W.listOf #[.int g tg, .int t tt, .bytes (octs (lawHdr g 1 t R.length)) th] k0) :: os ++ rest), rfl, F, N, ?_, ?_, ?_, ?_⟩
  · intro p hp
    rcases List.mem_cons.mp hp with rfl | hp
    · exact .tail _ (.head _)
    rcases List.mem_cons.mp hp with rfl | hp
    · exact .tail _ (.tail _ (.head _))
    rcases List.mem_cons.mp hp with rfl | hp
    · exact .tail _ (.tail _ (.tail _ (.head _)))
    rcases List.mem_cons.mp hp with rfl | hp
    · exact .head _
    · exact .tail _ (.tail _ (.tail _ (.tail _ (hsub p hp))))
  · intro p hp
    rw [List.mem_singleton.mp hp]
    exact .tail _ (.tail _ (.tail _ (.tail _ hIm)))
  · intro p hp b hb
    rw [List.mem_singleton.mp hp]
    obtain ⟨q, hq, rfl⟩ := List.mem_map.mp hb
    rcases List.mem_cons.mp hq with rfl | hq
    · exact hIS
    rcases List.mem_cons.mp hq with rfl | hq
    · exact hIr
    rcases List.mem_cons.mp hq with rfl | hq
    · exact hID
    rcases List.mem_cons.mp hq with rfl | hq
    · exact Nat.ne_of_lt hIA
    · exact Ne.symm (hI1 q hq)
  · refine ⟨cur', seed', tc', ts', n1, n2, k + 1, vs', ns', (A', W.listOf #[.int g tg, .int t tt, .bytes (octs (lawHdr g 1 t R.length)) th] k0) :: os, lawHdr g 1 t R.length ++ R, tr, e1, e2, e3, e4, e5, ?_, hI, hv, hW.step hg0 hg1 ht0 ht1 hl, ?_, ?_, ?_, hDS, hDr⟩
    · have : dv.push (.ref A') = (((A', W.listOf #[.int g tg, .int t tt, .bytes (octs (lawHdr g 1 t R.length)) th] k0) :: os).reverse.map fun p => Value.ref p.1).toArray := by
        rw [← hvv, List.reverse_cons, List.map_append, List.push_toArray]; rfl
      rw [this]
    · rw [List.length_cons, hos]
    · intro p hp b hb
      rcases List.mem_cons.mp hp with rfl | hp
      · rcases List.mem_cons.mp hb with rfl | hb
        · exact Nat.ne_of_gt hA.1
        · rw [List.mem_singleton.mp hb]; exact Nat.ne_of_gt hA.2.1
      · exact hof p hp b hb
    · intro p hp b hb
      rcases List.mem_cons.mp hp with rfl | hp
      · rw [List.mem_singleton.mp hb]; exact Nat.ne_of_gt hA.2.2.1
      · exact hofD p hp b hb

def J2 (D : Addr) (Bl : List Int) (tb : Tok) (os : List (Addr × Obj)) (X : List (Addr × Obj)) (i : Nat) (m : Str → Option Value) (nx : List (Addr × Obj)) : Prop :=
  ∃ (R : List Int) (tr : Tok), m (Str.ofString "body") = some (.bytes (octs Bl) tb) ∧ m (Str.ofString "layers") = some (.ref D) ∧ m (Str.ofString "row") = some (.bytes (octs R) tr) ∧ nx = X ∧ Wrap Bl (os.drop i) R
theorem wrap_front {g h : Heap} {L : Addr} {pS pr pD p q : Addr × Obj} {os rest : List (Addr × Obj)} (N : News g L h (pS :: pr :: pD :: (os ++ rest) ++ [q])) (hm : p ∈ os) :
    ∃ Y, News g L h (p :: pD :: Y) ∧ (∀ x ∈ pS :: pr :: pD :: (os ++ rest), x ∈ Y) ∧ q ∈ Y := by
  refine ⟨pS :: pr :: pD :: (os ++ rest) ++ [q], cb_drop N fun x hx => ?_, fun x hx => List.mem_append_left _ hx, List.mem_append_right _ (.head _)⟩
  rcases List.mem_cons.mp hx with rfl | hx
  · exact List.mem_append_left _ (.tail _ (.tail _ (.tail _ (List.mem_append_left _ hm))))
  rcases List.mem_cons.mp hx with rfl | hx
  · exact List.mem_append_left _ (.tail _ (.tail _ (.head _)))
  · exact hx
theorem wrap_back {g' h' : Heap} {L' : Addr} {tk : Nat} {m : Str → Option Value} {I : Addr} {o : Obj} {s₁ : Shared} {D : Addr} {Bl R : List Int} {tb tr : Tok} {os X Y : List (Addr × Obj)} {i : Nat} {p1 p2 p3 p4 : Addr × Obj}
    (N : News g' L' h' (p1 :: p2 :: p3 :: p4 :: Y)) (F : Fr g' L' h' m) (e3 : m (Str.ofString "body") = some (.bytes (octs Bl) tb)) (e4 : m (Str.ofString "layers") = some (.ref D)) (e5 : m (Str.ofString "row") = some (.bytes (octs R) tr))
    (hY : ∀ x ∈ X, x ∈ Y) (hq : (I, o) ∈ Y) (hI : OwnOff [(I, o)] (X.map (·.1))) (hW : Wrap Bl (os.drop i) R) :
    GrowEnd g' L' (J2 D Bl tb os X i) [(I, o)] s₁ { s₁ with heap := h', toks := tk } :=
  ⟨h', tk, m, _, X, rfl, F, N, fun p hp => .tail _ (.tail _ (.tail _ (.tail _ (hY p hp)))), fun p hp => by rw [List.mem_singleton.mp hp]; exact .tail _ (.tail _ (.tail _ (.tail _ hq))), hI, R, tr, e3, e4, e5, rfl, hW⟩
theorem Wrap.inv {Bl R : List Int} {p : Addr × Obj} {os : List (Addr × Obj)} (h : Wrap Bl (p :: os) R) : ∃ (R' : List Int) (g t : Int) (tg tt th : Tok) (k : Nat), Wrap Bl os R' ∧ 0 ≤ g ∧ g < 4 ∧ 0 ≤ t ∧ t < 2 ^ 200 ∧ (lawHdr g 1 t R'.length).length ≤ 40 ∧
    R = lawHdr g 1 t R'.length ++ R' ∧ p = (p.1, W.listOf #[.int g tg, .int t tt, .bytes (octs (lawHdr g 1 t R'.length)) th] k) := by
  cases h with
  | step w a b c d e => exact ⟨_, _, _, _, _, _, _, w, a, b, c, d, e, rfl, rfl⟩
theorem Wrap.end {Bl R : List Int} (h : Wrap Bl [] R) : R = Bl := by cases h; rfl
section
variable {prog : Program} {w : World} {A : Around} {E : Value → Shared → Prop} {s : Shared} {h₀ : Heap} {L : Addr} {m : Str → Option Value} {news : List (Addr × Obj)}
theorem item_ref {value slice : PySem.Expr} {l : Addr} {dv : Array Value} {n j : Nat} {k : Int} {u : Tok} {x : Value} {Q : Value → Shared → Prop} (N : News h₀ L s.heap news) (hm : (l, W.listOf dv n) ∈ news) (hx : dv[j]? = some x) (hj : k = (j : Nat)) (hz : j < 1000) (h : Q x s)
    (hs : subscripted slice false (.ref l) (.int k u) = operate [.ref l, .int k u] (getItem (.ref l) (.int k u)) := by with_unfolding_all rfl) :
    wpAny (model prog w) A (subscriptTail value slice (.ref l) (.int k u)) Q E s := by
  have hl : s.heap.IsList l dv := ⟨_, (N _ hm).1, rfl, n, rfl⟩
  subst hj
  exact tail_any hl.typeIs slot_list_getitem.lookup (wpAny_getItem_list hl (by omega) (by omega) (by rw [Int.toNat_natCast]; exact hx) h) hs
theorem ne_int {x : Int} {t u : Tok} {Q : Value → Shared → Prop} (h : Q (.bool false) s) : wpAny (model prog w) A (compareOp .NotEq (.int x t) (.int x u)) Q E s := by
  refine PyProof.Rows.ne_int ?_
  rw [bne_self_eq_false]; exact h
end


local macro_rules | `(tactic| walk_at "call ref") => `(tactic| (k_here; (with_reducible show wpAny _ _ (call (Value.ref 66) _) _ _ _); (with_unfolding_all refine' Mine.take_ct ?C ?F ?N ?hI ?ho ?hS ?hv ?hm ?hM ?_); (case C => exact ⟨by k_asm, by k_asm, by k_asm, by first | exact rfl | assumption, by first | omega | ktr_room, by first | omega | ktr_units⟩); (case F => k_asm); (case N => first | k_asm | exact cb_drop (by k_asm) rot1); (case hI => with_reducible assumption); (case ho => first | assumption | exact off_new (by assumption) (by assumption)); (case hS => assumption); (case hv => with_reducible assumption); (case hm => omega); (case hM => omega); intro v' tv' cur' seed' tc' ts' n1' n2' vs' ns' h' tk' hv0' hv1' hI' hv' F' N'; (try dsimp only); (try k_fold); (try k_sweep)))
local macro_rules | `(tactic| walk_at "call ref") => `(tactic| (k_here; (with_reducible show wpAny _ _ (call (Value.ref 94) _) _ _ _); (with_unfolding_all refine' Mine.tag_ct ?C ?F ?N ?hI ?ho ?hS ?hv ?hl ?hz ?hk ?_); (case C => exact ⟨by k_asm, by k_asm, by k_asm, by first | exact rfl | assumption, by first | omega | ktr_room, by first | omega | ktr_units⟩); (case F => k_asm); (case N => k_asm); (case hI => with_reducible assumption); (case ho => assumption); (case hS => assumption); (case hv => with_reducible assumption); (case hl => with_reducible assumption); (case hz => with_reducible assumption); (case hk => with_reducible assumption); intro v' tv' cur' seed' tc' ts' n1' n2' vs' ns' h' tk' hv0' hv1' hI' hv' F' N'; (try dsimp only); (try k_fold); (try k_sweep)))
local macro_rules | `(tactic| walk_at "call ref") => `(tactic| (k_here; (with_reducible show wpAny _ _ (call (Value.ref 52) _) _ _ _); (with_unfolding_all refine' Mine.dump_ct ?C ?F ?N ?g0 ?g1 ?m0 ?m1 ?t0 ?t1 ?hb ?_); (case C => exact ⟨by k_asm, by k_asm, by k_asm, by first | exact rfl | assumption, by first | omega | ktr_room, by first | omega | ktr_units⟩); (case F => k_asm); (case N => k_asm); (case g0 => with_reducible assumption); (case g1 => with_reducible assumption); (case m0 => decide); (case m1 => decide); (case t0 => with_reducible assumption); (case t1 => with_reducible assumption); (case hb => rw [Mine.octs_size]; omega); rw [Mine.octs_size]; intro t' h' tk' F' N'; (try dsimp only); (try k_fold); (try k_sweep)))
local macro_rules | `(tactic| walk_at "call ref") => `(tactic| (k_here; (with_reducible show wpAny _ _ (call (Value.ref 87) _) _ _ _); (with_unfolding_all refine' Mine.hdr_ct ?C ?F ?N ?h0 ?h1 ?h2 ?h3 ?_); (case C => exact ⟨by k_asm, by k_asm, by k_asm, by first | exact rfl | assumption, by first | omega | ktr_room, by first | omega | ktr_units⟩); (case F => k_asm); (case N => k_asm); (case h0 => with_reducible assumption); (case h1 => with_reducible assumption); (case h2 => omega); (case h3 => omega); intro l' us' k' h' tk' hI' hlen' F' N'; (try dsimp only); (try k_fold); (try k_sweep)))
local macro_rules | `(tactic| walk_at "call builtin:len") => `(tactic| (k_here; (with_reducible show wpAny _ _ (call (Value.builtin "len") [Value.bytes (Mine.octs _) _]) _ _ _); k_dflt (refine' Mine.len_octs ?e1 ?z ?_; (case e1 => with_reducible exact rfl); (case z => first | omega | (simp only [List.length_append]; omega))); intro t' k'))
local macro_rules | `(tactic| walk_at "call type:bytes") => `(tactic| (k_here; (with_reducible show wpAny _ _ (call (Value.type _) [Value.ref _]) _ _ _); k_dflt (refine' Mine.bytes_octs ?F ?N ?i ?r ?z ?h ?_; (case F => k_asm); (case N => k_asm); (case i => with_reducible assumption); (case r => exact Mine.hdr_mem (by with_reducible assumption) (by with_reducible assumption) (by decide) (by decide) (by with_reducible assumption) (by omega) (by omega)); (case z => omega); (case h => with_unfolding_all rfl)); intro h' t' k' F' N'; (try k_sweep)))
local macro_rules | `(tactic| walk_at "compareOp NotEq bytes bytes") => `(tactic| (k_here; with_reducible refine Mine.ne_octs ?_))
local macro_rules | `(tactic| walk_at "binaryOp Add bytes bytes") => `(tactic| (k_here; k_dflt (refine' Mine.add_octs ?e1 ?e2 ?z ?_; (case e1 => first | with_reducible exact rfl | with_reducible exact Mine.octs_nil); (case e2 => first | with_reducible exact rfl | with_reducible exact Mine.octs_nil); (case z => omega)); intro t' k'))
local macro_rules | `(tactic| walk_at "compareOp NotEq int int") => `(tactic| (k_here; with_reducible refine Mine.ne_int ?_))
local macro_rules | `(tactic| walk_at "compareOp Eq bytes bytes") => `(tactic| (k_here; with_reducible refine Mine.eq_octs ?_))
local macro_rules | `(tactic| walk_at "subscriptTail") => `(tactic| (k_here; (with_reducible show wpAny _ _ (subscriptTail _ _ (Value.ref _) (Value.int _ _)) _ _ _); k_dflt (refine' Mine.item_ref ?N ?hm ?hx ?hj ?hz ?_; (case N => k_asm); (case hm => k_mem); (case hx => with_reducible assumption); (case hj => omega); (case hz => omega))))
local macro_rules | `(tactic| walk_at "call ref") => `(tactic| (k_here; (with_reducible show wpAny _ _ (call (Value.ref 45) _) _ _ _); (with_unfolding_all refine' Mine.parse_ct ?C ?F ?N ?g0 ?g1 ?m0 ?m1 ?t0 ?t1 ?hB ?hl ?hH ?_); (case C => exact ⟨by k_asm, by k_asm, by k_asm, by first | exact rfl | assumption, by first | omega | ktr_room, by first | omega | ktr_units⟩); (case F => k_asm); (case N => k_asm); (case g0 => assumption); (case g1 => assumption); (case m0 => decide); (case m1 => decide); (case t0 => assumption); (case t1 => assumption); (case hB => assumption); (case hl => omega); (case hH => assumption); intro T1' T2' a1' a2' a3' a4' a5' a6' a7' k1' k2' h' tk' F' N'; (try dsimp only); (try k_fold); (try k_sweep)))
local macro_rules | `(tactic| walk_at "call type:range") => `(tactic| (k_here; (with_reducible show wpAny _ _ (call (Value.type _) [Value.int _ _]) _ _ _); (refine' Mine.range_1 ?F ?N ?_; (case F => k_asm); (case N => k_asm)); intro r' h' t0' v0' k' hr' F' N'; (try dsimp only); (try k_sweep)))
local macro_rules | `(tactic| walk_at "pyIter ref") => `(tactic| (refine Mine.hold ?_))

set_option maxHeartbeats 4000000 in
theorem wrap_ct {S r l : Addr} {cur seed : Int} {tc ts tb : Tok} {n n' : Nat} {vs zs : List Value} {ns ks Bl : List Int}
    (C : Cx w loose mean mg mb dp un 3 cs outer A₀ base h₀) (F : Fr h₀ L s.heap m)
    (N : News h₀ L s.heap ((S, W.listOf #[.ref r, .int cur tc, .int seed ts, .bool true] n) :: (r, W.listOf vs.toArray n') :: rest))
    (hI : IntsAre vs ns) (hoff : OwnOff rest [S, r]) (hSr : @Ne Nat S r) (hinv : StInv ns cur seed)
    (hl : base.IsList l zs.toArray) (hz : IntsAre zs ks) (hk63 : ks.length ≤ 63)
    (hB : ∀ x ∈ Bl, 0 ≤ x ∧ x < 256) (hBl : Bl.length ≤ 200)
    (hret : ∀ (h' : Heap) (tk' : Nat), Fr h₀ L h' m → Q (.bool true) { s with heap := h', toks := tk' }) :
    wpAny (model PySem.Challenge.rw_eh5002_01.row.prog w) (ktrTop dp un gd cn cs L a ccd cl outer) (call (.ref 108) [.ref S, .ref l, .bytes (octs Bl) tb]) Q E s := by
  obtain ⟨B, X, T, hk, hd, hu⟩ := C
  revert X; k_fill; intro X
  have hC := cLine_is
  have hlen := IntsAre.length hz
  refine wpAny_call ?_
  k_dflt (refine' code_def ?k1 ?k2 ?k3 ?k4 ?k5 ?kA ?kF ?kK ?k6 ?k7 ?k8 ?k9 ?kB ?_ ?c2 ?c3 ?c4 ?c5; (case kA => exact rfl); (case kF => exact rfl); (case kK => assumption); (case k1 => k_asm); (case k2 => k_asm); (case k3 => k_asm); (case k4 => k_asm); (case k5 => k_asm); (case k6 => k_is); (case k7 => k_is); (case k8 => ktr_room); (case k9 => exact BindsTo.of_eq rfl); (case c5 => decide); (case kB => exact locs rfl); (case c2 => exact rfl); (case c3 => exact rfl); (case c4 => exact rfl); k_whole; intro g' L' h' FG' F' N' B' X' T'; (try dsimp only); (try k_lift B'); (try k_fold))
  rename Fr _ _ _ _ => F1
  have F2 := Fr.congr F1 (fun y => look3 y (Str.ofString "body") (Str.ofString "script") (Str.ofString "state") _ _ _)
  clear F1
  k_steps
  rename Fr _ _ _ _ => F1
  rename News _ _ _ _ => N1
  rename IsRange _ _ _ _ _ _ _ _ => R1
  rename _ ∧ _ ∧ AllLt _ _ => A1
  have hoff1 := hoff
  refine iter_grow (J1 S r l _ Bl tb rest) (by rfl) R1 (small_n (by omega) (by omega)) (rangeSize_nat _ _) F1 N1 ⟨_, _, _, _, _, _, _, _, _, [], Bl, _, rfl, rfl, rfl, rfl, rfl, rfl, by assumption, by assumption, .base, rfl, hoff1, (fun p hp b hb => by rw [List.mem_singleton.mp hb]; exact Nat.ne_of_lt (of_allLt A1.2.2 p hp)), Nat.ne_of_gt A1.1, Nat.ne_of_gt A1.2.1⟩ ?_ ?_
  · intro i t m₁ nx h tk I o hi hIo ⟨cur, seed, tc, ts, n, n', k, vs, ns, os, R, tr, em1, em2, em3, em4, em5, en, hI2, hv2, hW, hosl, hof, hofD, hDS, hDr⟩ F₂ N₂
    subst en
    replace F₂ := Fr.in5 F₂ em1 em2 em3 em4 em5
    clear F1 N1 em1 em2 em3 em4 em5
    have hRm := hW.mem hB (by omega) hBl
    have hRl := hW.len
    have hIS : @Ne Nat I S := hIo _ (.head _) _ (.head _)
    have hIr : @Ne Nat I r := hIo _ (.head _) _ (.tail _ (.head _))
    have hID := hIo _ (.head _) _ (.tail _ (.tail _ (.head _)))
    have hI1 : ∀ p ∈ os ++ rest, p.1 ≠ I := fun p hp => Ne.symm (hIo _ (.head _) _ (.tail _ (.tail _ (.tail _ (List.mem_map.mpr ⟨p, hp, rfl⟩)))))
    obtain ⟨rest1, hr1⟩ : ∃ x, x = (os ++ rest) ++ [(I, o)] := ⟨_, rfl⟩
    have N₃ := N₂
    simp only [List.cons_append] at N₃
    rw [← hr1] at N₃
    have hsub : ∀ p ∈ os ++ rest, p ∈ rest1 := fun p hp => by rw [hr1]; exact List.mem_append_left _ hp
    have hIm : (I, o) ∈ rest1 := by rw [hr1]; exact List.mem_append_right _ (.head _)
    have hall : ∀ p ∈ rest1, p ∈ os ++ rest ∨ p = (I, o) := fun p hp => by
      rw [hr1] at hp
      exact (List.mem_append.mp hp).imp id List.mem_singleton.mp
    clear hr1 N₂
    generalize hvv : (os.reverse.map fun p => Value.ref p.1).toArray = dv at *
    obtain ⟨hofX, hD1⟩ := wrap_off (oD := W.listOf dv k) hall hof hofD hDS hDr hIS hIr hID
    have hdv : dv.size ≤ 10 := by rw [← hvv, List.size_toArray, List.length_map, List.length_reverse]; omega
    clear hoff hoff1 hIo R1 N F
    have hosl2 : os.length ≤ 2 := by omega
    dsimp only
    k_steps
    rename Fr _ _ _ _ => F5
    rename News _ _ _ _ => N5
    rename _ ∧ _ ∧ _ ∧ AllLt _ _ => A5
    refine append_K F5 N5 (.tail (Nat.ne_of_gt A5.2.2.1) (.tail (Ne.symm hDS) (.tail (Ne.symm hDr) (.head hD1)))) (fun h5 F6 N6 => ?_) (by rw [sizeLine_eq]; omega)
    clear F5 N5
    k_steps
    rename Fr _ _ _ _ => F6
    rename News _ _ _ _ => N6
    refine wrap_next (ns' := ?kn) N6 F6 rfl rfl rfl rfl rfl ?a1 ?a2 hW (by assumption) (by assumption) (by assumption) (by assumption) (by assumption) hosl hvv hof hofD hDS hDr hIS hIr hID hsub hIm hI1 A5
    case a1 => with_reducible assumption
    case a2 => with_reducible assumption
  · intro m₁ nx h tk ⟨cur, seed, tc, ts, n, n', k, vs, ns, os, R, tr, em1, em2, em3, em4, em5, en, hI2, hv2, hW, hosl, hof, hofD, hDS, hDr⟩ F₂ N₂
    subst en
    replace F₂ := Fr.put5 F₂ em1 em2 em3 em4 em5
    clear F1 N1 R1 em1 em2 em3 em4 em5
    generalize hvv : (os.reverse.map fun p => Value.ref p.1).toArray = dv at *
    have hdv : dv.size ≤ 10 := by rw [← hvv, List.size_toArray, List.length_map, List.length_reverse]; omega
    dsimp only
    k_steps
    rename Fr _ _ _ _ => F1
    rename News _ _ _ _ => N1
    rename IsRange _ _ _ _ _ _ _ _ => R1
    refine iter_grow (J2 _ Bl tb os _) (by rfl) R1 (small_n (by omega) (by omega)) (rangeSize_nat _ _) F1 N1 ⟨R, _, rfl, rfl, rfl, rfl, hW⟩ ?_ ?_
    · intro i t m₁ nx h tk I o hi hIo ⟨R2, tr2, em1, em2, em3, en, hW2⟩ F₂ N₂
      subst en
      have hdl : dv.size = os.length := by rw [← hvv, List.size_toArray, List.length_map, List.length_reverse]
      have hi2 : i < os.length := by omega
      replace F₂ := Fr.in3 F₂ em1 em2 em3
      clear F1 N1 R1 em1 em2 em3
      rw [List.drop_eq_getElem_cons hi2] at hW2
      obtain ⟨R', g, t', tg, tt, th, kk, hW3, hg0, hg1, ht0, ht1, hl40, hRe, hp⟩ := hW2.inv
      have hx : dv[dv.size - 1 - i]? = some (.ref (os[i]'hi2).1) := by
        rw [← hvv]
        simp only [List.size_toArray, List.length_map, List.length_reverse, List.getElem?_toArray, List.getElem?_map]
        rw [List.getElem?_reverse (by omega)]
        have : os.length - 1 - (os.length - 1 - i) = i := by omega
        rw [this, List.getElem?_eq_getElem hi2]; rfl
      have hmem : os[i]'hi2 ∈ os := List.getElem_mem _
      rw [hp] at hmem
      generalize (os[i]'hi2).1 = A2 at *
      have hRm := hW3.mem hB (by rw [List.length_drop]; omega) hBl
      have hRl := hW3.len
      rw [List.length_drop] at hRl
      subst hRe
      have hR5 : R'.length < 1000000 := by omega
      obtain ⟨Y, N₃, hY, hIY⟩ := wrap_front N₂ hmem
      clear N₂ hW2
      dsimp only
      k_steps
      rename Fr _ _ _ _ => F6
      rename News _ _ _ _ => N6
      exact wrap_back N6 F6 rfl rfl rfl hY hIY hIo hW3
    · intro m₁ nx h tk ⟨R2, tr2, em1, em2, em3, en, hW2⟩ F₂ N₂
      subst en
      have hdl : dv.size = os.length := by rw [← hvv, List.size_toArray, List.length_map, List.length_reverse]
      have e0 : List.drop ((dv.size : Int) - 0).toNat os = [] := List.drop_eq_nil_of_le (by omega)
      rw [e0] at hW2
      replace F₂ := Fr.put3 F₂ em1 em2 em3
      have e9 := hW2.end
      subst e9
      clear F1 N1 R1 em1 em2 em3
      dsimp only
      k_steps
      exact hret _ _ (by assumption)
end
end Mine

namespace Mine
open PySem PySem.W PyProof.Rows PySem.Calls PySem.Spec PySem.SeqAt
set_option maxRecDepth 100000
set_option Elab.async false

theorem Fr.in1 {h₀ h : Heap} {L : Addr} {m : Str → Option Value} {y0 x : Str} {v0 v : Value} (F : Fr h₀ L h (fun y => if y = y0 then some v0 else m y)) (e : m x = some v) : Fr h₀ L h (fun y => if y = y0 then some v0 else if y = x then some v else m y) :=
  Fr.congr F fun y => by
    by_cases q : y = y0
    · rw [if_pos q, if_pos q]
    · rw [if_neg q, if_neg q]
      exact putE e (fun _ => rfl) y
def JL (S r l c : Addr) (oc : Obj) (i : Nat) (m : Str → Option Value) (nx : List (Addr × Obj)) : Prop :=
  ∃ (cur seed : Int) (tc ts : Tok) (n n' : Nat) (vs : List Value) (ns : List Int), m (Str.ofString "script") = some (.ref l) ∧
    nx = [(S, W.listOf #[.ref r, .int cur tc, .int seed ts, .bool true] n), (r, W.listOf vs.toArray n'), (c, oc)] ∧ IntsAre vs ns ∧ StInv ns cur seed ∧ OwnOff [(c, oc)] [S, r]
theorem law_offc {S r c : Addr} {oc o : Obj} (h : OwnOff [(c, oc)] [S, r]) : OwnOff [(c, o)] [S, r] := fun p hp b hb => by
  rw [List.mem_singleton.mp hp]; exact h _ (.head _) b hb
theorem law_next {g h : Heap} {L S r l c I : Addr} {oc o : Obj} {cur seed : Int} {tc ts : Tok} {n n' i tk : Nat} {vs : List Value} {ns : List Int} {m : Str → Option Value} {s₁ : Shared} {Y : List (Addr × Obj)}
    (F : Fr g L h m) (N : News g L h ((S, W.listOf #[.ref r, .int cur tc, .int seed ts, .bool true] n) :: (r, W.listOf vs.toArray n') :: Y)) (hc : (c, oc) ∈ Y) (hI : (I, o) ∈ Y) (e1 : m (Str.ofString "script") = some (.ref l))
    (hi : IntsAre vs ns) (hv : StInv ns cur seed) (hof : OwnOff [(c, oc)] [S, r]) (hIo : OwnOff [(I, o)] [S, r, c]) :
    GrowEnd g L (JL S r l c oc (i + 1)) [(I, o)] s₁ { s₁ with heap := h, toks := tk } := by
  refine ⟨h, tk, m, _, [(S, W.listOf #[.ref r, .int cur tc, .int seed ts, .bool true] n), (r, W.listOf vs.toArray n'), (c, oc)], rfl, F, N, ?_, ?_, hIo, cur, seed, tc, ts, n, n', vs, ns, e1, rfl, hi, hv, hof⟩
  · intro p hp
    rcases List.mem_cons.mp hp with rfl | hp
    · exact .head _
    rcases List.mem_cons.mp hp with rfl | hp
    · exact .tail _ (.head _)
    rw [List.mem_singleton.mp hp]; exact .tail _ (.tail _ hc)
  · intro p hp
    rw [List.mem_singleton.mp hp]; exact .tail _ (.tail _ hI)
theorem comp_off {S r c I C D : Addr} {oS oR oc oI oC oD : Obj} (h : OwnOff [(c, oc)] [S, r]) (off : LCg.Off3 I C D [(S, oS), (r, oR), (c, oc)]) : OwnOff [(I, oI), (C, oC), (D, oD), (c, oc)] [S, r] := by
  obtain ⟨⟨a1, a2, a3⟩, ⟨b1, b2, b3⟩, _⟩ := off
  intro p hp b hb
  rcases List.mem_cons.mp hp with rfl | hp
  · rcases List.mem_cons.mp hb with rfl | hb
    · exact Ne.symm a1
    · rw [List.mem_singleton.mp hb]; exact Ne.symm b1
  rcases List.mem_cons.mp hp with rfl | hp
  · rcases List.mem_cons.mp hb with rfl | hb
    · exact Ne.symm a2
    · rw [List.mem_singleton.mp hb]; exact Ne.symm b2
  rcases List.mem_cons.mp hp with rfl | hp
  · rcases List.mem_cons.mp hb with rfl | hb
    · exact Ne.symm a3
    · rw [List.mem_singleton.mp hb]; exact Ne.symm b3
  · exact h p hp b hb
theorem rot32 {a b c d e f : Addr × Obj} : ∀ p ∈ [d, e, a, b, c, f], p ∈ [a, b, c, d, e, f] := by
  intro p h; simp only [List.mem_cons, List.not_mem_nil, or_false] at h ⊢; rcases h with h | h | h | h | h | h <;> simp [h]
theorem rot23 {a b c d e f : Addr × Obj} : ∀ p ∈ [a, b, c, d, e, f], p ∈ [d, e, a, b, c, f] := by
  intro p h; simp only [List.mem_cons, List.not_mem_nil, or_false] at h ⊢; rcases h with h | h | h | h | h | h <;> simp [h]
def JC (S r c : Addr) (oc : Obj) (i : Nat) (ys : List Value) (nw : List (Addr × Obj)) : Prop :=
  ∃ (cur seed : Int) (tc ts : Tok) (n n' : Nat) (vs : List Value) (ns zs : List Int), nw = [(S, W.listOf #[.ref r, .int cur tc, .int seed ts, .bool true] n), (r, W.listOf vs.toArray n'), (c, oc)] ∧ IntsAre vs ns ∧ StInv ns cur seed ∧ IntsAre ys zs ∧ zs.length = i ∧ ∀ z ∈ zs, 0 ≤ z ∧ z < 256
theorem comp_next {h₀ h' : Heap} {L S r c I C D : Addr} {oI oC oc : Obj} {oS oR : Obj} {m : Str → Option Value} {s₁ : Shared} {tk n n' i : Nat} {cur seed v : Int} {tc ts tv : Tok} {vs ys : List Value} {ns zs : List Int}
    (F : Fr h₀ L h' m) (N : News h₀ L h' [(S, W.listOf #[.ref r, .int cur tc, .int seed ts, .bool true] n), (r, W.listOf vs.toArray n'), (I, oI), (C, oC), (D, LCg.lst ys), (c, oc)])
    (off : LCg.Off3 I C D [(S, oS), (r, oR), (c, oc)]) (hI : IntsAre vs ns) (hv : StInv ns cur seed) (hy : IntsAre ys zs) (hl : zs.length = i) (hz : ∀ z ∈ zs, 0 ≤ z ∧ z < 256) (v0 : 0 ≤ v) (v1 : v < 256) :
    LCg.CompEnd h₀ L m s₁ I oI C oC D (LCg.lst ys) (fun _ => True) (fun y news' => JC S r c oc (i + 1) (ys ++ [y]) news') (.int v tv) { s₁ with heap := h', toks := tk } := by
  refine LCg.CompEnd.intro F N _ rot23 ?_ trivial ⟨cur, seed, tc, ts, n, n', vs, ns, zs ++ [v], rfl, hI, hv, hy.append (.cons _ _ .nil), ?_, ?_⟩
  · exact ⟨off.1, off.2.1, off.2.2⟩
  · rw [List.length_append, hl]; rfl
  · intro z hz'
    rcases List.mem_append.mp hz' with hz' | hz'
    · exact hz z hz'
    · rw [List.mem_singleton.mp hz']; exact ⟨v0, v1⟩
theorem law_off {S r c I : Addr} {oc o : Obj} (h : OwnOff [(c, oc)] [S, r]) (h1 : @Ne Nat I S) (h2 : @Ne Nat I r) : OwnOff [(c, oc), (I, o)] [S, r] := by
  intro p hp b hb
  rcases List.mem_cons.mp hp with rfl | hp
  · exact h _ (.head _) b hb
  rw [List.mem_singleton.mp hp]
  rcases List.mem_cons.mp hb with rfl | hb
  · exact h1
  · rw [List.mem_singleton.mp hb]; exact h2

section
variable {prog : Program} {w : World} {A : Around} {E : Value → Shared → Prop} {s : Shared}
theorem mul_octs {v z : Int} {t u : Tok} {Q : Value → Shared → Prop} (hv0 : 0 ≤ v) (hv1 : v < 256) (h0 : 0 ≤ z) (h1 : z < 70000)
    (h : ∀ (Bl : List Int) t' k, (Bl.length : Int) = z → (∀ x ∈ Bl, 0 ≤ x ∧ x < 256) → Q (.bytes (octs Bl) t') { s with toks := k }) : wpAny (model prog w) A (binaryOp .Mult (.bytes (octs [v]) t) (.int z u)) Q E s := by
  refine bytes_mul_any (b := [oct v]) (List.cons_ne_nil _ _) (by omega) (by omega) (by simp) fun t' k => ?_
  have e : ((List.replicate z.toNat [oct v]).flatten).toArray = octs (List.replicate z.toNat v) := by
    unfold octs
    congr 1
    induction z.toNat with
    | zero => rfl
    | succ n ih => rw [List.replicate_succ, List.flatten_cons, ih, List.replicate_succ, List.map_cons]; rfl
  rw [e]
  exact h _ t' k (by rw [List.length_replicate]; omega) fun x hx => by rw [List.eq_of_mem_replicate hx]; exact ⟨hv0, hv1⟩
end
theorem one_mem {v : Int} (h0 : 0 ≤ v) (h1 : v < 256) : ∀ x ∈ [v], 0 ≤ x ∧ x < 256 := fun x hx => by rw [List.mem_singleton.mp hx]; exact ⟨h0, h1⟩

theorem off_new2 {S r D c I : Addr} {oD oc o : Obj} (h : @LT.lt Nat _ S D ∧ @LT.lt Nat _ r D ∧ @LT.lt Nat _ c D ∧ @LT.lt Nat _ I D) (ho : OwnOff [(c, oc), (I, o)] [S, r]) : OwnOff [(D, oD), (c, oc), (I, o)] [S, r] := by
  intro p hp b hb
  rcases List.mem_cons.mp hp with rfl | hp
  · rcases List.mem_cons.mp hb with rfl | hb
    · exact Nat.ne_of_gt h.1
    · rw [List.mem_singleton.mp hb]; exact Nat.ne_of_gt h.2.1
  · exact ho p hp b hb
section
variable {prog : Program} {w : World} {A : Around} {E : Value → Shared → Prop} {s : Shared} {h₀ : Heap} {L : Addr} {m : Str → Option Value} {news : List (Addr × Obj)}
theorem item_size {value slice : PySem.Expr} {l : Addr} {n : Nat} {k : Int} {u ta tb tc : Tok} {Q : Value → Shared → Prop} (N : News h₀ L s.heap news) (hm : (l, { cls := .type "tuple", data := .seq #[.int 65535 ta, .int 65536 tb, .int 69999 tc] n }) ∈ news) (h0 : 0 ≤ k) (h1 : k < 3)
    (h : ∀ z t, 0 ≤ z → z < 70000 → Q (.int z t) s)
    (hs : subscripted slice false (.ref l) (.int k u) = operate [.ref l, .int k u] (getItem (.ref l) (.int k u)) := by with_unfolding_all rfl) :
    wpAny (model prog w) A (subscriptTail value slice (.ref l) (.int k u)) Q E s := by
  have ht : IsTup s.heap l #[.int 65535 ta, .int 65536 tb, .int 69999 tc] := ⟨_, (N _ hm).1, rfl, n, rfl⟩
  have hk : k = 0 ∨ k = 1 ∨ k = 2 := by omega
  rcases hk with rfl | rfl | rfl
  · exact tail_any ht.typeIs PyProof.Rows.slot_tuple_getitem.lookup (PyProof.Rows.getItem_tuple ht (by decide) (by decide) (j := 0) rfl rfl (h _ _ (by decide) (by decide))) hs
  · exact tail_any ht.typeIs PyProof.Rows.slot_tuple_getitem.lookup (PyProof.Rows.getItem_tuple ht (by decide) (by decide) (j := 1) rfl rfl (h _ _ (by decide) (by decide))) hs
  · exact tail_any ht.typeIs PyProof.Rows.slot_tuple_getitem.lookup (PyProof.Rows.getItem_tuple ht (by decide) (by decide) (j := 2) rfl rfl (h _ _ (by decide) (by decide))) hs
end
local macro_rules | `(tactic| walk_at "call ref") => `(tactic| (k_here; (with_reducible show wpAny _ _ (call (Value.ref 59) _) _ _ _); (with_unfolding_all refine' Mine.start_ct ?C ?F ?N ?hl ?hI ?hn ?_); (case C => exact ⟨by k_asm, by k_asm, by k_asm, by first | exact rfl | assumption, by first | omega | ktr_room, by first | omega | ktr_units⟩); (case F => k_asm); (case N => k_asm); (case hl => assumption); (case hI => with_reducible assumption); (case hn => omega); intro S' r' cur' seed' tc' ts' n1' n2' vs' ns' h' tk' hI' hv' hSr' hoff' F' N'; (try dsimp only); (try k_fold); (try k_sweep)))
local macro_rules | `(tactic| walk_at "call ref") => `(tactic| (k_here; (with_reducible show wpAny _ _ (call (Value.ref 66) _) _ _ _); (with_unfolding_all refine' Mine.take_ct ?C ?F ?N ?hI ?ho ?hS ?hv ?hm ?hM ?_); (case C => exact ⟨by k_asm, by k_asm, by k_asm, by first | exact rfl | assumption, by first | omega | ktr_room, by first | omega | ktr_units⟩); (case F => k_asm); (case N => first | k_asm | exact cb_drop (by k_asm) rot1); (case hI => with_reducible assumption); (case ho => first | assumption | exact off_new2 (by assumption) (by assumption)); (case hS => assumption); (case hv => with_reducible assumption); (case hm => omega); (case hM => omega); intro v' tv' cur' seed' tc' ts' n1' n2' vs' ns' h' tk' hv0' hv1' hI' hv' F' N'; (try dsimp only); (try k_fold); (try k_sweep)))
local macro_rules | `(tactic| walk_at "call ref") => `(tactic| (k_here; (with_reducible show wpAny _ _ (call (Value.ref 94) _) _ _ _); (with_unfolding_all refine' Mine.tag_ct ?C ?F ?N ?hI ?ho ?hS ?hv ?hl ?hz ?hk ?_); (case C => exact ⟨by k_asm, by k_asm, by k_asm, by first | exact rfl | assumption, by first | omega | ktr_room, by first | omega | ktr_units⟩); (case F => k_asm); (case N => k_asm); (case hI => with_reducible assumption); (case ho => assumption); (case hS => assumption); (case hv => with_reducible assumption); (case hl => with_reducible assumption); (case hz => with_reducible assumption); (case hk => omega); intro v' tv' cur' seed' tc' ts' n1' n2' vs' ns' h' tk' hv0' hv1' hI' hv' F' N'; (try dsimp only); (try k_fold); (try k_sweep)))
local macro_rules | `(tactic| walk_at "call ref") => `(tactic| (k_here; (with_reducible show wpAny _ _ (call (Value.ref 52) _) _ _ _); (with_unfolding_all refine' Mine.dump_ct ?C ?F ?N ?g0 ?g1 ?m0 ?m1 ?t0 ?t1 ?hb ?_); (case C => exact ⟨by k_asm, by k_asm, by k_asm, by first | exact rfl | assumption, by first | omega | ktr_room, by first | omega | ktr_units⟩); (case F => k_asm); (case N => k_asm); (case g0 => with_reducible assumption); (case g1 => with_reducible assumption); (case m0 => with_reducible assumption); (case m1 => with_reducible assumption); (case t0 => with_reducible assumption); (case t1 => with_reducible assumption); (case hb => rw [Mine.octs_size]; omega); rw [Mine.octs_size]; intro t' h' tk' F' N'; (try dsimp only); (try k_fold); (try k_sweep)))
local macro_rules | `(tactic| walk_at "call ref") => `(tactic| (k_here; (with_reducible show wpAny _ _ (call (Value.ref 87) _) _ _ _); (with_unfolding_all refine' Mine.hdr_ct ?C ?F ?N ?h0 ?h1 ?h2 ?h3 ?_); (case C => exact ⟨by k_asm, by k_asm, by k_asm, by first | exact rfl | assumption, by first | omega | ktr_room, by first | omega | ktr_units⟩); (case F => k_asm); (case N => k_asm); (case h0 => with_reducible assumption); (case h1 => with_reducible assumption); (case h2 => omega); (case h3 => omega); intro l' us' k' h' tk' hI' hlen' F' N'; (try dsimp only); (try k_fold); (try k_sweep)))
local macro_rules | `(tactic| walk_at "call type:bytes") => `(tactic| (k_here; (with_reducible show wpAny _ _ (call (Value.type _) [Value.ref _]) _ _ _); k_dflt (refine' Mine.bytes_octs ?F ?N ?i ?r ?z ?h ?_; (case F => k_asm); (case N => k_asm); (case i => first | with_reducible assumption | exact IntsAre.cons _ _ IntsAre.nil); (case r => first | with_reducible assumption | exact Mine.hdr_mem (by with_reducible assumption) (by with_reducible assumption) (by with_reducible assumption) (by with_reducible assumption) (by with_reducible assumption) (by omega) (by omega) | exact Mine.one_mem (by with_reducible assumption) (by with_reducible assumption)); (case z => first | omega | exact Nat.le_of_ble_eq_true rfl); (case h => with_unfolding_all rfl)); intro h' t' k' F' N'; (try k_sweep)))
local macro_rules | `(tactic| walk_at "compareOp NotEq bytes bytes") => `(tactic| (k_here; with_reducible refine Mine.ne_octs ?_))
local macro_rules | `(tactic| walk_at "binaryOp Add bytes bytes") => `(tactic| (k_here; k_dflt (refine' Mine.add_octs ?e1 ?e2 ?z ?_; (case e1 => first | with_reducible exact rfl | with_reducible exact Mine.octs_nil); (case e2 => first | with_reducible exact rfl | with_reducible exact Mine.octs_nil); (case z => omega)); intro t' k'))
local macro_rules | `(tactic| walk_at "call ref") => `(tactic| (k_here; (with_reducible show wpAny _ _ (call (Value.ref 101) _) _ _ _); (with_unfolding_all refine' Mine.whole_ct ?C ?F ?N ?g0 ?g1 ?m0 ?m1 ?t0 ?t1 ?hB ?hl ?hH ?_); (case C => exact ⟨by k_asm, by k_asm, by k_asm, by first | exact rfl | assumption, by first | omega | ktr_room, by first | omega | ktr_units⟩); (case F => k_asm); (case N => k_asm); (case g0 => with_reducible assumption); (case g1 => with_reducible assumption); (case m0 => with_reducible assumption); (case m1 => with_reducible assumption); (case t0 => with_reducible assumption); (case t1 => with_reducible assumption); (case hB => assumption); (case hl => omega); (case hH => assumption); intro h' tk' F' N'; (try dsimp only); (try k_fold); (try k_sweep)))
local macro_rules | `(tactic| walk_at "binaryOp Mult bytes int") => `(tactic| (k_here; k_dflt (refine' Mine.mul_octs ?v0 ?v1 ?z0 ?z1 ?_; (case v0 => with_reducible assumption); (case v1 => with_reducible assumption); (case z0 => with_reducible assumption); (case z1 => with_reducible assumption)); intro Bl' t' k' hlB' hB'; subst hlB'; (try k_sweep)))
local macro_rules | `(tactic| walk_at "subscriptTail") => `(tactic| (k_here; (with_reducible show wpAny _ _ (subscriptTail _ _ (Value.ref _) (Value.int _ _)) _ _ _); k_dflt (refine' Mine.item_size ?N ?hm ?h0 ?h1 ?_; (case N => k_asm); (case hm => k_mem); (case h0 => with_reducible assumption); (case h1 => with_reducible assumption)); intro z' t' hz0' hz1'))
local macro_rules | `(tactic| walk_at "storeName") => `(tactic| (k_here; k_dflt ((generalize hszE' : List.getD [0, 1, 126, 127, 128, 129, 255, 256, 257, 300] _ (0 : Int) = sz'); (have hsz' : 0 ≤ sz' ∧ sz' < 70000 := hszE' ▸ Mine.getD_bd (by decide) (by decide)); (obtain ⟨hsz0', hsz1'⟩ := hsz'); (clear hszE'))))
local macro_rules | `(tactic| walk_at "call ref") => `(tactic| (k_here; (with_reducible show wpAny _ _ (call (Value.ref 108) _) _ _ _); (with_unfolding_all refine' Mine.wrap_ct ?C ?F ?N ?hI ?ho ?hS ?hv ?hl ?hz ?hk ?hB ?hBl ?_); (case C => exact ⟨by k_asm, by k_asm, by k_asm, by first | exact rfl | assumption, by first | omega | ktr_room, by first | omega | ktr_units⟩); (case F => k_asm); (case N => k_asm); (case hI => with_reducible assumption); (case ho => assumption); (case hS => assumption); (case hv => with_reducible assumption); (case hl => with_reducible assumption); (case hz => with_reducible assumption); (case hk => omega); (case hB => with_reducible assumption); (case hBl => omega); intro h' tk' F'; (try dsimp only); (try k_fold); (try k_sweep)))
local macro_rules | `(tactic| walk_at "eval ListComp") => `(tactic| (refine Mine.hold ?_))
local macro_rules | `(tactic| walk_at "CompSrc") => `(tactic| (refine Mine.hold ?_))
local macro_rules | `(tactic| walk_at "CompEnd") => `(tactic| (refine Mine.hold ?_))
local macro_rules | `(tactic| walk_at "pyIter ref") => `(tactic| (refine Mine.hold ?_))
local macro_rules | `(tactic| walk_at "call type:range") => `(tactic| (k_here; (with_reducible show wpAny _ _ (call (Value.type _) [Value.int _ _]) _ _ _); (refine' Mine.range_1 ?F ?N ?_; (case F => k_asm); (case N => k_asm)); intro r' h' t0' v0' k' hr' F' N'; (try dsimp only); (try k_sweep)))

set_option maxHeartbeats 8000000 in
theorem law_all : PySem.Challenge.rw_eh5002_01.Holds := Mine.hd (by
  k_go0
  all_goals try k_fold
  all_goals have hC := cLine_is
  k_steps
  rename Fr _ _ _ _ => F1
  rename News _ _ _ _ => N1
  rename IsRange _ _ _ _ _ _ _ _ => R1
  rename StInv _ _ _ => I1
  rename @Ne Nat _ _ => hSr
  rename OwnOff _ _ => hof
  rename Obj.data _ = Data.cell (some (.ref _)) => hcell
  simp only [List.cons_append, List.nil_append] at N1
  have F2 := Fr.congr F1 (m' := fun y => if y = Str.ofString "script" then some (.ref _) else none) (fun y => by with_unfolding_all rfl)
  clear F1
  refine iter_grow (JL _ _ _ _ _) (by rfl) R1 (small_n (by omega) (by omega)) (rangeSize_nat _ _) F2 N1 ⟨_, _, _, _, _, _, _, _, by rfl, rfl, by assumption, I1, law_offc hof⟩ ?_ ?_
  · intro i t m₁ nx h tk I o hi hIo ⟨cur, seed, tc, ts, n, n', vs, ns, em1, en, hI2, hv2, hof2⟩ F₂ N₂
    subst en
    replace F₂ := Fr.in1 F₂ em1
    clear F2 N1 R1 em1
    have hIS : @Ne Nat I _ := hIo _ (.head _) _ (.head _)
    have hIr : @Ne Nat I _ := hIo _ (.head _) _ (.tail _ (.head _))
    have hofX := law_off (o := o) hof2 hIS hIr
    simp only [List.cons_append, List.nil_append] at N₂
    have hIo2 : OwnOff [(I, o)] [_, _, _] := hIo
    clear hIo hIS hIr
    dsimp only [envOfC] at F₂ N₂
    dsimp only
    k_steps
    all_goals rename Fr _ _ _ _ => F6
    all_goals rename News _ _ _ _ => N6
    · refine law_next (ns := ?kn0) F6 N6 (.tail _ (.head _)) (.tail _ (.tail _ (.head _))) rfl ?a0 ?b0 hof2 hIo2
      case a0 => with_reducible assumption
      case b0 => with_reducible assumption
    · refine law_next (ns := ?kn1) F6 N6 (.head _) (.tail _ (.head _)) rfl ?a1 ?b1 hof2 hIo2
      case a1 => with_reducible assumption
      case b1 => with_reducible assumption
  · intro m₁ nx h tk ⟨cur, seed, tc, ts, n, n', vs, ns, em1, en, hI2, hv2, hof2⟩ F₂ N₂
    subst en
    replace F₂ := Fr.put F₂ em1
    clear F2 N1 R1 em1
    dsimp only [envOfC] at F₂ N₂
    dsimp only
    k_steps
    refine LCg.ListComp_U (F₀ := by k_asm) (by with_unfolding_all rfl) (by decide) (by rfl) (by decide) (by rfl) ?_
    k_steps
    with_reducible rename Fr _ _ _ _ => F1
    with_reducible rename News _ _ _ _ => N1
    with_reducible rename IsRange _ _ _ _ _ _ _ _ => R1
    refine LCg.CompSrc.range (by rfl) F1 N1 R1 (small_one (by omega) (by omega) (by omega) (by omega)) (rangeSize_nat _ _) (by rw [sizeLine_eq]; omega) (fun g => ?_)
    refine comp_rest (JC _ _ _ _) _ ?_ ?_ _ 0 [] _ (Nat.zero_add _) ⟨_, _, _, _, _, _, _, _, [], rfl, by assumption, by assumption, .nil, rfl, fun _ q => nomatch q⟩
    · intro i ys nw hi ⟨cur, seed, tc, ts, n, n', vs, ns, zs, en, hI3, hv3, hy, hl, hz⟩ v I oI C oC D m₂ h tk E' hP hns hx F2 N2 off ne
      subst en
      clear F1 N1 R1
      have hofY := comp_off (oI := oI) (oC := oC) (oD := LCg.lst ys) hof2 off
      replace N2 := cb_drop N2 rot32
      k_steps
      with_reducible rename Fr _ _ _ _ => F6
      with_reducible rename News _ _ _ _ => N6
      refine comp_next (ns := ?kn5) F6 N6 off ?a5 ?b5 hy hl hz (by assumption) (by assumption)
      case a5 => with_reducible assumption
      case b5 => with_reducible assumption
    · rintro ys nw ⟨cur, seed, tc, ts, n, n', vs, ns, zs, en, hI3, hv3, hy, hl, hz⟩
      subst en
      unfold LCg.FinE
      intro D h tk F2 N2 off
      clear F1 N1 R1
      dsimp only
      k_steps
  )
end Mine

theorem PySem.Challenge.cw_eh5002_01_holds : PySem.Challenge.rw_eh5002_01.Holds := by
  exact Mine.law_all
