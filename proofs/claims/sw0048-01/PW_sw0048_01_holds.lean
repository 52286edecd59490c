import PyProof.Rows.All
import Wide.All
import OpenK.AllK
import Wide.FinOn
import PyProof.GenObj
import PyProof.GenQ
import PyProof.ZipIter
import PyProof.RangeIter
import PyProof.WalksMore
import PyProof.RangeFor
import PySem.Challenge.RW_sw0048_01
set_option Elab.async false
set_option rowWalk.seconds 0
set_option maxRecDepth 100000
set_option maxHeartbeats 4000000
namespace Mine
def atom0 : PySem.Str := PySem.Str.ofString "q"
theorem atom0_eq : atom0 = atom0 := rfl
end Mine
name_quick tw10007627690174824804 for Mine.atom0 by Mine.atom0_eq
name_quick tw10528696920762540405 for Mine.atom0 by Mine.atom0_eq
name_quick tw10833955939284561965 for Mine.atom0 by Mine.atom0_eq
name_quick tw10942035263794033107 for Mine.atom0 by Mine.atom0_eq
name_quick tw10948738476641704880 for Mine.atom0 by Mine.atom0_eq
name_quick tw11420187438672877268 for Mine.atom0 by Mine.atom0_eq
name_quick tw11985326045990495214 for Mine.atom0 by Mine.atom0_eq
name_quick tw12133689546182074016 for Mine.atom0 by Mine.atom0_eq
name_quick tw12233582284571471492 for Mine.atom0 by Mine.atom0_eq
name_quick tw12866136484021002089 for Mine.atom0 by Mine.atom0_eq
name_quick tw13016732220969518872 for Mine.atom0 by Mine.atom0_eq
name_quick tw13170541422831568417 for Mine.atom0 by Mine.atom0_eq
name_quick tw13215998728584607739 for Mine.atom0 by Mine.atom0_eq
name_quick tw13335737130258781183 for Mine.atom0 by Mine.atom0_eq
name_quick tw13890744642731562755 for Mine.atom0 by Mine.atom0_eq
name_quick tw13900631225919944168 for Mine.atom0 by Mine.atom0_eq
name_quick tw14108194823987119177 for Mine.atom0 by Mine.atom0_eq
name_quick tw1414301608579184545 for Mine.atom0 by Mine.atom0_eq
name_quick tw14333388528381170442 for Mine.atom0 by Mine.atom0_eq
name_quick tw14537914154153760125 for Mine.atom0 by Mine.atom0_eq
name_quick tw14834023430324568649 for Mine.atom0 by Mine.atom0_eq
name_quick tw14979626087600564940 for Mine.atom0 by Mine.atom0_eq
name_quick tw1503297043503765363 for Mine.atom0 by Mine.atom0_eq
name_quick tw15112985482279097393 for Mine.atom0 by Mine.atom0_eq
name_quick tw151948405760981731 for Mine.atom0 by Mine.atom0_eq
name_quick tw15980859228951719591 for Mine.atom0 by Mine.atom0_eq
name_quick tw16049961110935095269 for Mine.atom0 by Mine.atom0_eq
name_quick tw16350708796919097252 for Mine.atom0 by Mine.atom0_eq
name_quick tw16504061995083234566 for Mine.atom0 by Mine.atom0_eq
name_quick tw16590896929057906003 for Mine.atom0 by Mine.atom0_eq
name_quick tw1660567816389502386 for Mine.atom0 by Mine.atom0_eq
name_quick tw1678274191532866277 for Mine.atom0 by Mine.atom0_eq
name_quick tw16916688483869632129 for Mine.atom0 by Mine.atom0_eq
name_quick tw17000458434675057986 for Mine.atom0 by Mine.atom0_eq
name_quick tw17018628822417861297 for Mine.atom0 by Mine.atom0_eq
name_quick tw1702518465993881591 for Mine.atom0 by Mine.atom0_eq
name_quick tw17069979004554194336 for Mine.atom0 by Mine.atom0_eq
name_quick tw17100903815162463580 for Mine.atom0 by Mine.atom0_eq
name_quick tw17111948838632640456 for Mine.atom0 by Mine.atom0_eq
name_quick tw17476080006546285661 for Mine.atom0 by Mine.atom0_eq
name_quick tw17672482021469178181 for Mine.atom0 by Mine.atom0_eq
name_quick tw17975652961387846372 for Mine.atom0 by Mine.atom0_eq
name_quick tw17988542015724977305 for Mine.atom0 by Mine.atom0_eq
name_quick tw18056578402003937789 for Mine.atom0 by Mine.atom0_eq
name_quick tw18340240734955500558 for Mine.atom0 by Mine.atom0_eq
name_quick tw18345786424863182364 for Mine.atom0 by Mine.atom0_eq
name_quick tw1962928258387122110 for Mine.atom0 by Mine.atom0_eq
name_quick tw282004115355043989 for Mine.atom0 by Mine.atom0_eq
name_quick tw3105397867545767578 for Mine.atom0 by Mine.atom0_eq
name_quick tw3282434896037501709 for Mine.atom0 by Mine.atom0_eq
name_quick tw3393070767905547708 for Mine.atom0 by Mine.atom0_eq
name_quick tw3778451253796500701 for Mine.atom0 by Mine.atom0_eq
name_quick tw3864002871667074403 for Mine.atom0 by Mine.atom0_eq
name_quick tw3891137856419664920 for Mine.atom0 by Mine.atom0_eq
name_quick tw392140993173905013 for Mine.atom0 by Mine.atom0_eq
name_quick tw3972328310683599613 for Mine.atom0 by Mine.atom0_eq
name_quick tw4011157648589011858 for Mine.atom0 by Mine.atom0_eq
name_quick tw4090926877573551719 for Mine.atom0 by Mine.atom0_eq
name_quick tw4302124980754421698 for Mine.atom0 by Mine.atom0_eq
name_quick tw4797165386629745026 for Mine.atom0 by Mine.atom0_eq
name_quick tw5902227825499142635 for Mine.atom0 by Mine.atom0_eq
name_quick tw6380047634161181297 for Mine.atom0 by Mine.atom0_eq
name_quick tw6448080314894763839 for Mine.atom0 by Mine.atom0_eq
name_quick tw6589095468515690095 for Mine.atom0 by Mine.atom0_eq
name_quick tw704327219915372674 for Mine.atom0 by Mine.atom0_eq
name_quick tw7269565832213808900 for Mine.atom0 by Mine.atom0_eq
name_quick tw7275051467321613617 for Mine.atom0 by Mine.atom0_eq
name_quick tw7276740287692124622 for Mine.atom0 by Mine.atom0_eq
name_quick tw7474045453884316825 for Mine.atom0 by Mine.atom0_eq
name_quick tw7745614565497352828 for Mine.atom0 by Mine.atom0_eq
name_quick tw7892128664451923741 for Mine.atom0 by Mine.atom0_eq
name_quick tw8075568018651887793 for Mine.atom0 by Mine.atom0_eq
name_quick tw8579058602437062094 for Mine.atom0 by Mine.atom0_eq
name_quick tw8753696776887207221 for Mine.atom0 by Mine.atom0_eq
name_quick tw951843321253372498 for Mine.atom0 by Mine.atom0_eq
name_quick tw9564595351457756722 for Mine.atom0 by Mine.atom0_eq
name_quick tw9908251947323293946 for Mine.atom0 by Mine.atom0_eq
name_quick tw9948023125614773506 for Mine.atom0 by Mine.atom0_eq
open PySem PySem.W PyProof.Rows in
set_option maxHeartbeats 8000000 in
open_top Mine.hd for PySem.Challenge.rw_sw0048_01
local macro_rules | `(tactic| walk_at $s:str) => `(tactic| k_dflt (k_extra $s))
section
namespace Mine
/-- the cheapest way from u to v: 2 for a sign put in or left out, c x y for x turned into y -/
noncomputable def dist (c : Nat → Nat → Nat) : List Nat → List Nat → Nat
  | [], v => 2 * v.length
  | _ :: u, [] => 2 * (u.length + 1)
  | x :: u, y :: v => min (c x y + dist c u v) (min (2 + dist c (x :: u) v) (2 + dist c u (y :: v)))
termination_by u v => u.length + v.length

section
variable {c : Nat → Nat → Nat}
theorem d_nil (v : List Nat) : dist c [] v = 2 * v.length := by rw [dist]
theorem d_nil' (u : List Nat) : dist c u [] = 2 * u.length := by cases u <;> simp [dist]
theorem d_cons (x y : Nat) (u v : List Nat) : dist c (x :: u) (y :: v) = min (c x y + dist c u v) (min (2 + dist c (x :: u) v) (2 + dist c u (y :: v))) := by rw [dist]
theorem d_symm (hs : ∀ x y, c x y = c y x) : ∀ u v : List Nat, dist c u v = dist c v u
  | [], v => by rw [d_nil, d_nil']
  | x :: u, [] => by rw [d_nil, d_nil']
  | x :: u, y :: v => by
    rw [d_cons, d_cons, d_symm hs u v, d_symm hs (x :: u) v, d_symm hs u (y :: v), hs x y, Nat.min_comm (2 + dist c v (x :: u))]
termination_by u v => u.length + v.length
theorem d_ins (y : Nat) (u v : List Nat) : dist c u (y :: v) ≤ 2 + dist c u v := by
  cases u with
  | nil => rw [d_nil, d_nil, List.length_cons]; omega
  | cons x u => rw [d_cons]; omega
theorem d_del (x : Nat) (u v : List Nat) : dist c (x :: u) v ≤ 2 + dist c u v := by
  cases v with
  | nil => rw [d_nil', d_nil', List.length_cons]; omega
  | cons y v => rw [d_cons]; omega
theorem d_dropL (x : Nat) (u : List Nat) : ∀ v : List Nat, dist c u v ≤ 2 + dist c (x :: u) v
  | [] => by rw [d_nil', d_nil', List.length_cons]; omega
  | y :: v => by
    have h1 := d_ins (c := c) y u v
    have h2 := d_dropL x u v
    rw [d_cons]; omega
theorem d_dropR (y : Nat) (v : List Nat) : ∀ u : List Nat, dist c u v ≤ 2 + dist c u (y :: v)
  | [] => by rw [d_nil, d_nil, List.length_cons]; omega
  | x :: u => by
    have h1 := d_del (c := c) x u v
    have h2 := d_dropR y v u
    rw [d_cons]; omega
theorem d_strip {x : Nat} (h : c x x = 0) (u v : List Nat) : dist c (x :: u) (x :: v) = dist c u v := by
  have h1 := d_dropL (c := c) x u v
  have h2 := d_dropR (c := c) x v u
  rw [d_cons, h]; omega
theorem nine (p q A B C Ax Ay Bx By Cx Cy : Nat) :
    min (p + min (q + A) (min (2 + Ax) (2 + Ay))) (min (2 + min (q + B) (min (2 + Bx) (2 + By))) (2 + min (q + C) (min (2 + Cx) (2 + Cy)))) =
    min (q + min (p + A) (min (2 + B) (2 + C))) (min (2 + min (p + Ax) (min (2 + Bx) (2 + Cx))) (2 + min (p + Ay) (min (2 + By) (2 + Cy)))) := by
  simp only [← Nat.add_min_add_left]
  rw [Nat.add_left_comm q p A, Nat.add_left_comm 2 p Ax, Nat.add_left_comm 2 p Ay, Nat.add_left_comm q 2 B, Nat.add_left_comm q 2 C]
  ac_rfl
theorem d_snoc (x y : Nat) : ∀ u v : List Nat, dist c (u ++ [x]) (v ++ [y]) = min (c x y + dist c u v) (min (2 + dist c (u ++ [x]) v) (2 + dist c u (v ++ [y])))
  | [], [] => by simp only [List.nil_append]; rw [d_cons]
  | [], b :: v => by
    have ih := d_snoc x y [] v
    simp only [List.nil_append, List.cons_append, d_nil, List.length_append, List.length_cons, List.length_nil, d_cons] at ih ⊢
    rw [ih]
    simp only [Nat.mul_add, Nat.mul_one, Nat.mul_zero, Nat.zero_add, ← Nat.add_min_add_left]
    ac_rfl
  | a :: u, [] => by
    have ih := d_snoc x y u []
    simp only [List.nil_append, List.cons_append, d_nil', List.length_append, List.length_cons, List.length_nil, d_cons] at ih ⊢
    rw [ih]
    simp only [Nat.mul_add, Nat.mul_one, Nat.mul_zero, Nat.zero_add, ← Nat.add_min_add_left]
    ac_rfl
  | a :: u, b :: v => by
    have i1 := d_snoc x y u v
    have i2 := d_snoc x y (a :: u) v
    have i3 := d_snoc x y u (b :: v)
    simp only [List.cons_append] at i2 i3 ⊢
    rw [d_cons, i1, i2, i3, d_cons, d_cons, d_cons]
    exact nine _ _ _ _ _ _ _ _ _ _ _
termination_by u v => u.length + v.length
theorem d_rev : ∀ u v : List Nat, dist c u.reverse v.reverse = dist c u v
  | [], v => by rw [List.reverse_nil, d_nil, d_nil, List.length_reverse]
  | x :: u, [] => by rw [List.reverse_nil, d_nil', d_nil', List.length_reverse]
  | x :: u, y :: v => by
    have i1 := d_rev u v
    have i2 := d_rev (x :: u) v
    have i3 := d_rev u (y :: v)
    rw [List.reverse_cons] at i2 i3
    rw [List.reverse_cons, List.reverse_cons, d_snoc, i1, i2, i3, d_cons]
termination_by u v => u.length + v.length
theorem d_strip_end {x : Nat} (h : c x x = 0) (u v : List Nat) : dist c (u ++ [x]) (v ++ [x]) = dist c u v := by
  have e := d_rev (c := c) (u ++ [x]) (v ++ [x])
  rw [List.reverse_append, List.reverse_append] at e
  simp only [List.reverse_cons, List.reverse_nil, List.nil_append, List.singleton_append] at e
  rw [← e, d_strip h, d_rev]
/-- every row holds an end that is no dearer than the whole -/
theorem d_row (b2 : List Nat) : ∀ b1 a : List Nat, ∃ j, j ≤ a.length ∧ dist c b1 (a.take j) ≤ dist c (b1 ++ b2) a
  | [], a => ⟨0, Nat.zero_le _, by rw [List.take_zero, d_nil]; exact Nat.zero_le _⟩
  | x :: b1, [] => ⟨0, Nat.le_refl _, by rw [List.take_zero, d_nil', d_nil', List.length_append]; omega⟩
  | x :: b1, y :: a => by
    obtain ⟨j1, l1, h1⟩ := d_row b2 b1 a
    obtain ⟨j2, l2, h2⟩ := d_row b2 (x :: b1) a
    obtain ⟨j3, l3, h3⟩ := d_row b2 b1 (y :: a)
    have e := d_cons (c := c) x y (b1 ++ b2) a
    rw [List.cons_append] at h2 ⊢
    rcases Nat.le_total (c x y + dist c (b1 ++ b2) a) (min (2 + dist c (x :: (b1 ++ b2)) a) (2 + dist c (b1 ++ b2) (y :: a))) with h | h
    · rw [Nat.min_eq_left h] at e
      refine ⟨j1 + 1, Nat.succ_le_succ l1, ?_⟩
      rw [List.take_succ_cons, d_cons, e]
      exact Nat.le_trans (Nat.min_le_left _ _) (Nat.add_le_add_left h1 _)
    · rw [Nat.min_eq_right h] at e
      rcases Nat.le_total (2 + dist c (x :: (b1 ++ b2)) a) (2 + dist c (b1 ++ b2) (y :: a)) with h' | h'
      · rw [Nat.min_eq_left h'] at e
        refine ⟨j2 + 1, Nat.succ_le_succ l2, ?_⟩
        rw [List.take_succ_cons, d_cons, e]
        exact Nat.le_trans (Nat.min_le_right _ _) (Nat.le_trans (Nat.min_le_left _ _) (Nat.add_le_add_left h2 _))
      · rw [Nat.min_eq_right h'] at e
        refine ⟨j3, l3, ?_⟩
        rw [e]
        exact Nat.le_trans (d_del (c := c) x b1 ((y :: a).take j3)) (Nat.add_le_add_left h3 _)
termination_by b1 a => b1.length + a.length
theorem d_low : ∀ u v : List Nat, 2 * v.length ≤ dist c u v + 2 * u.length ∧ 2 * u.length ≤ dist c u v + 2 * v.length
  | [], v => by rw [d_nil]; simp
  | x :: u, [] => by rw [d_nil']; simp
  | x :: u, y :: v => by
    have i1 := d_low u v
    have i2 := d_low (x :: u) v
    have i3 := d_low u (y :: v)
    rw [d_cons]
    simp only [List.length_cons] at *
    omega
termination_by u v => u.length + v.length
theorem d_high (u v : List Nat) : dist c u v ≤ 2 * u.length + 2 * v.length := by
  induction u with
  | nil => rw [d_nil]; simp
  | cons x u ih =>
    have := d_del (c := c) x u v
    rw [List.length_cons]; omega
/-- scattered in: just so dear as the lengths differ -/
theorem d_of_sublist (h0 : ∀ x, c x x = 0) : ∀ {u v : List Nat}, u.Sublist v → dist c u v = 2 * (v.length - u.length)
  | [], v, _ => by rw [d_nil]; simp
  | x :: u, [], h => by cases h
  | x :: u, y :: v, h => by
    have lo := (d_low (c := c) (x :: u) (y :: v)).1
    have hl := h.length_le
    simp only [List.length_cons] at *
    cases h with
    | cons _ h' =>
      have ih := d_of_sublist h0 h'
      have := d_ins (c := c) y (x :: u) v
      have := h'.length_le
      simp only [List.length_cons] at *
      omega
    | cons_cons _ h' =>
      have ih := d_of_sublist h0 h'
      rw [d_strip (h0 _), ih]; omega
theorem sub_arith {k A B C n : Nat} (hA : 2 * n ≤ A) (hC : 2 * (n + 1) ≤ C) (e : min (k + A) (min (2 + B) (2 + C)) = 2 * n) : (k = 0 ∧ A = 2 * n) ∨ 2 + B = 2 * n := by
  rcases Nat.le_total (k + A) (min (2 + B) (2 + C)) with h | h
  · rw [Nat.min_eq_left h] at e
    clear h hC
    exact .inl ⟨by omega, by omega⟩
  · rw [Nat.min_eq_right h] at e
    clear h hA
    rcases Nat.le_total (2 + B) (2 + C) with h | h
    · rw [Nat.min_eq_left h] at e; exact .inr e
    · rw [Nat.min_eq_right h] at e; clear h; exact absurd e (by omega)
theorem sublist_of_d (h1 : ∀ x y, c x y = 0 → x = y) : ∀ u v : List Nat, u.length ≤ v.length → dist c u v = 2 * (v.length - u.length) → u.Sublist v
  | [], v, _, _ => List.nil_sublist v
  | x :: u, [], h, _ => by simp at h
  | x :: u, y :: v, h, e => by
    obtain ⟨n, hn⟩ : ∃ n, v.length = u.length + n := ⟨_, (Nat.add_sub_of_le (Nat.le_of_succ_le_succ h)).symm⟩
    have l1 := (d_low (c := c) u v).1
    have l2 := (d_low (c := c) u (y :: v)).1
    rw [d_cons] at e
    simp only [List.length_cons, Nat.add_sub_add_right] at e l2
    rw [hn, Nat.add_sub_cancel_left] at e
    rw [hn, Nat.mul_add, Nat.add_comm] at l1
    rw [hn, Nat.add_assoc, Nat.mul_add, Nat.add_comm (2 * u.length)] at l2
    rcases sub_arith (Nat.le_of_add_le_add_right l1) (Nat.le_of_add_le_add_right l2) e with ⟨e0, e1⟩ | e2
    · rw [h1 x y e0]
      exact (sublist_of_d h1 u v (Nat.le_of_succ_le_succ h) (by rw [hn, Nat.add_sub_cancel_left, e1])).cons_cons _
    · obtain ⟨n, rfl⟩ : ∃ k, n = k + 1 := ⟨n - 1, by clear l1 l2 e hn h; omega⟩
      have e3 : dist c (x :: u) v = 2 * n := Nat.add_left_cancel (e2.trans (Nat.add_comm _ _))
      refine (sublist_of_d h1 (x :: u) v ?_ ?_).cons _
      · rw [hn, List.length_cons, ← Nat.add_assoc, Nat.add_right_comm]; exact Nat.le_add_right _ _
      · rw [e3, hn, List.length_cons, ← Nat.add_assoc, Nat.add_right_comm, Nat.add_sub_cancel_left]
termination_by u v => u.length + v.length
end
end Mine
end
section
open PySem PySem.W PyProof.Rows PySem.Calls
set_option maxRecDepth 100000
namespace Mine
noncomputable abbrev prog := PySem.Challenge.rw_sw0048_01.row.prog
noncomputable abbrev KK (w : World) : Frag := hd.heap_39 w.params
noncomputable abbrev TopM (mean : ExcName → Option Value) (mg mb : Str → Option Value) (h : Heap) : Prop := Top hd.view_39 (looseW hd.view_39 [Str.ofString "EXACT_TOKEN_TYPES"]) mean mg mb h

noncomputable def low (a : Str) : Str := Txt.lower a
noncomputable def scost (a b : Str) : Int := if a = b then 0 else if low a = low b then 1 else 2

/-- contract of a pure def: a value comes back, the ledger stays -/
noncomputable abbrev Con (w : World) (mean : ExcName → Option Value) (mg mb : Str → Option Value) (f : Addr) (vs : List Value) (pre : Prop) (dd du : Nat) (R : Tok → Value) : Prop :=
  ∀ (dp un : Nat) (gd : Option (List Code)) (cn : Str) (cs : Scope) (a : Addr) (ccd : Value) (cl : List (Str × Addr)) (outer : List Env) (A₀ : Around) (base h₀ : Heap) (L : Addr) (m : Str → Option Value) (news : List (Addr × Obj)) (s : Shared) (Q E : Value → Shared → Prop),
    Below A₀ base outer h₀ → Fr h₀ L s.heap m → (KK w).In h₀ → News h₀ L s.heap news → TopM mean mg mb h₀ → cs.kind = .function →
    pre → dp + dd < recursionLimit → un + du < cLine →
    (∀ (t : Tok) (h' : Heap) (tk' : Nat), Fr h₀ L h' m → News h₀ L h' news → Q (R t) { s with heap := h', toks := tk' }) →
      wpAny (model prog w) (ktrTop dp un gd cn cs L a ccd cl outer) (call (.ref f) vs) Q E s

end Mine
end
section
open PySem PySem.W PyProof.Rows PySem.Calls
set_option maxRecDepth 100000
namespace Mine
set_option maxHeartbeats 4000000 in
theorem subst_c (w mean mg mb) (a b : Str) (ta tb : Tok) : Con w mean mg mb 31 [.str a ta, .str b tb] (a.length ≤ 1000 ∧ b.length ≤ 1000) 1 8 (fun t => .int (scost a b) t) := by
  unfold Con KK Mine.prog TopM; k_with_none; w_top off; k_fill
  intro dp un gd cn cs a' ccd cl outer A₀ base h₀ L m news s Q E B F X N T hk hpre hd hu hret
  obtain ⟨hla, hlb⟩ := hpre
  refine wpAny_call ?_
  k_dflt cell_enter
  k_steps
  all_goals (refine cb_retI hret ?e1 ?e2 ?e3; (case e2 => k_asm); (case e3 => k_asm); (case e1 => simp_all [scost, low]))
end Mine
end
section
open PySem PySem.W PyProof.Rows PySem.Calls
set_option maxRecDepth 100000
namespace Mine
/-- how far u is met when the codes of v are read -/
noncomputable def scanStep (u : Str) (k : Int) (c : Int) : Int := if k < (u.cps.size : Int) ∧ ((u.cps.getD k.toNat 0 : Nat) : Int) = c then k + 1 else k
noncomputable def scanK (u : Str) (v : List Int) : Int := v.foldl (scanStep u) 0
noncomputable def scatB (u v : Str) : Bool := scanK u (KStt.codes v) == (u.length : Int)
noncomputable def ScanInv (u : Str) (pre : List Int) (k : Int) : Prop := k = scanK u pre
theorem scanK_snoc (u : Str) (pre : List Int) (c : Int) : scanK u (pre ++ [c]) = scanStep u (scanK u pre) c := by simp [scanK]
theorem scan_hit {u : Str} {pre : List Int} {k : Int} {n : Nat} (h : ScanInv u pre k) (h0 : 0 ≤ k) (h1 : k < (u.length : Int)) (h2 : (Txt.item u k == (⟨#[n]⟩ : Str)) = true) :
    ScanInv u (pre ++ [(n : Int)]) (k + 1) ∧ 0 ≤ k + 1 := by
  rw [item_meets ⟨h0, h1⟩] at h2
  have h3 := eq_of_beq h2
  simp only [Str.mk.injEq, Array.mk.injEq, List.cons.injEq, and_true] at h3
  refine ⟨?_, by omega⟩
  unfold ScanInv at *
  rw [scanK_snoc, ← h, scanStep, if_pos ⟨h1, congrArg _ h3⟩]
theorem scan_no {u : Str} {pre : List Int} {k : Int} {n : Nat} (h : ScanInv u pre k) (h0 : 0 ≤ k) (h1 : k < (u.length : Int)) (h2 : (Txt.item u k == (⟨#[n]⟩ : Str)) = false) :
    ScanInv u (pre ++ [(n : Int)]) k ∧ 0 ≤ k := by
  rw [item_meets ⟨h0, h1⟩] at h2
  refine ⟨?_, h0⟩
  unfold ScanInv at *
  rw [scanK_snoc, ← h, scanStep, if_neg]
  rintro ⟨_, h3⟩
  rw [Int.ofNat.inj h3] at h2
  simp at h2
theorem scan_end {u : Str} {pre : List Int} {k : Int} {n : Nat} (h : ScanInv u pre k) (h0 : 0 ≤ k) (h1 : ¬ k < (u.length : Int)) :
    ScanInv u (pre ++ [(n : Int)]) k ∧ 0 ≤ k := by
  refine ⟨?_, h0⟩
  unfold ScanInv at *
  rw [scanK_snoc, ← h, scanStep, if_neg (fun h => h1 h.1)]
theorem scan_start {u : Str} : ScanInv u [] 0 ∧ (0 : Int) ≤ 0 := ⟨rfl, Int.le_refl _⟩
theorem scan_fin {u v : Str} {k : Int} (h : ScanInv u (KStt.codes v) k) : (k == (u.length : Int)) = scatB u v := by unfold ScanInv at h; subst h; rfl
set_option maxHeartbeats 4000000 in
theorem scat_c (w mean mg mb) (a b : Str) (ta tb : Tok) : Con w mean mg mb 55 [.str a ta, .str b tb] (a.length ≤ 1000 ∧ b.length ≤ 1000) 1 8 (fun _ => .bool (scatB a b)) := by
  unfold Con KK Mine.prog TopM; k_with_none; w_top off; k_fill
  intro dp un gd cn cs a' ccd cl outer A₀ base h₀ L m news s Q E B F X N T hk hpre hd hu hret
  obtain ⟨hla, hlb⟩ := hpre
  k_with "pyIter str" => k_state (fun pre k => ScanInv a pre k ∧ 0 ≤ k) "k"
  k_with "state" => first | exact scan_start | exact scan_hit (by assumption) (by assumption) (by assumption) (by assumption) | exact scan_no (by assumption) (by assumption) (by assumption) (by assumption) | exact scan_end (by assumption) (by assumption) (by assumption)
  refine wpAny_call ?_
  k_dflt cell_enter
  k_steps
  all_goals (refine cb_retB hret ?e1 ?e2 ?e3; (case e2 => k_asm); (case e3 => k_asm); (case e1 => exact scan_fin (by assumption)))
end Mine
end
section
open PySem PySem.W PyProof.Rows PySem.Calls
set_option maxRecDepth 100000
namespace Mine
noncomputable def CutJ {σ : Type} (g : Heap) (L : Addr) (s : Shared) (news : List (Addr × Obj)) (ps : σ → List (Str × Value)) (P : σ → Prop) (s' : Shared) : Prop :=
  ∃ (c : σ) (h : Heap) (tk : Nat) (m' : Str → Option Value), s' = { s with heap := h, toks := tk } ∧ Fr g L h m' ∧ News g L h news ∧ (∀ p ∈ ps c, m' p.1 = some p.2) ∧ P c
theorem CutJ.intro {σ : Type} {g : Heap} {L : Addr} {s : Shared} {news news' : List (Addr × Obj)} {ps : σ → List (Str × Value)} {P : σ → Prop} (c : σ) {h : Heap} {tk : Nat} {m' : Str → Option Value}
    (F : Fr g L h m') (N : News g L h news') (hs : ∀ p ∈ news, p ∈ news') (hk : ∀ p ∈ ps c, m' p.1 = some p.2) (hp : P c) : CutJ g L s news ps P { s with heap := h, toks := tk } :=
  ⟨c, h, tk, m', rfl, F, fun p hp => N p (hs p hp), hk, hp⟩
theorem fr_names {g h : Heap} {L : Addr} {m : Str → Option Value} {ps : List (Str × Value)} (F : Fr g L h m) (hk : ∀ p ∈ ps, m p.1 = some p.2) : Fr g L h (kstB m ps) := by
  have e : kstB m ps = m := by funext z; exact kstB_eq hk fun _ => rfl
  rw [e]; exact F
section
variable {M : Model} {A : Around} {E : Value → Shared → Prop} {s : Shared} {env : Env} {Q : Flow → Shared → Prop} {g : Heap} {L : Addr} {m : Str → Option Value} {news : List (Addr × Obj)}
noncomputable def CutPost {σ : Type} (g : Heap) (L : Addr) (s : Shared) (news : List (Addr × Obj)) (ps : σ → List (Str × Value)) (P : σ → Prop) (Q : Flow → Shared → Prop) (f : Flow) (s' : Shared) : Prop :=
  match f with
  | .next => CutJ g L s news ps P s'
  | f' => Q f' s'
theorem cut_seq {σ : Type} {st : Stmt} {rest : List Stmt} (_F : Fr g L s.heap m) (_N : News g L s.heap news) (ps : σ → List (Str × Value)) (P : σ → Prop)
    (h1 : wpAny M A (exec st env) (CutPost g L s news ps P Q) E s)
    (h2 : ∀ (c : σ) (h : Heap) (tk : Nat) (m' : Str → Option Value), P c → Fr g L h (kstB m' (ps c)) → News g L h news → wpAny M A (execs rest env) Q E { s with heap := h, toks := tk }) :
    wpAny M A (execs (st :: rest) env) Q E s := by
  rw [execs_cons]
  refine wpAny_bind (wpAny_mono h1 (fun f s' q => ?_) fun _ _ x => x)
  cases f with
  | next =>
    obtain ⟨c, h, tk, m', rfl, F', N', hk, hp⟩ := q
    exact h2 c h tk m' hp (fr_names F' hk) N'
  | brk => exact wpAny_pure q
  | cont => exact wpAny_pure q
  | ret v => exact wpAny_pure q
end
theorem sub_cons {a : Addr × Obj} {l l' : List (Addr × Obj)} (h : ∀ p ∈ l, p ∈ l') : ∀ p ∈ a :: l, p ∈ a :: l' := fun p hp => by
  rcases List.mem_cons.mp hp with rfl | hp
  · exact List.Mem.head _
  · exact List.Mem.tail _ (h p hp)
theorem sub_l1 {a l : List (Addr × Obj)} : ∀ p ∈ l, p ∈ l ++ a := fun _ hp => List.mem_append_left _ hp
theorem sub_l2 {a b l : List (Addr × Obj)} : ∀ p ∈ l, p ∈ l ++ a ++ b := fun _ hp => List.mem_append_left _ (List.mem_append_left _ hp)
noncomputable def cl (x : Str) : List Nat := x.cps.toList
theorem cl_len (x : Str) : (cl x).length = x.length := by simp [cl, Str.length]
/-- the price of turning the sign x into y -/
noncomputable def cc (x y : Nat) : Nat := if x = y then 0 else if low ⟨#[x]⟩ = low ⟨#[y]⟩ then 1 else 2
theorem cc_self (x : Nat) : cc x x = 0 := by simp [cc]
theorem cc_symm (x y : Nat) : cc x y = cc y x := by simp only [cc, eq_comm]
theorem cc_le (x y : Nat) : cc x y ≤ 2 := by unfold cc; split; omega; split <;> omega
theorem cc_zero {x y : Nat} (h : cc x y = 0) : x = y := by
  unfold cc at h
  split at h
  · assumption
  · split at h <;> omega
theorem scost_cc (x y : Nat) : scost ⟨#[x]⟩ ⟨#[y]⟩ = (cc x y : Int) := by
  unfold scost cc
  by_cases h : x = y
  · simp [h]
  · have h' : (⟨#[x]⟩ : Str) ≠ ⟨#[y]⟩ := by
      intro e; simp only [Str.mk.injEq, Array.mk.injEq, List.cons.injEq, and_true] at e; exact h e
    rw [if_neg h', if_neg h]
    split <;> rfl
noncomputable def DD (u v : Str) : Nat := dist cc (cl u) (cl v)
theorem oLt8 {n : Nat} {c : Int} (h : n ≤ 8) (hc : 8 < c) : (n : Int) < c := Int.lt_of_le_of_lt (Int.ofNat_le.mpr h) hc
theorem oGe8 {n : Nat} {c : Int} (h : n ≤ 8) (hc : 8 < c) : ¬ (n : Int) ≥ c := Int.not_le.mpr (oLt8 h hc)
theorem oGe0 {n : Nat} {c : Int} (h : (n : Int) = 0) (hc : 0 < c) : ¬ (n : Int) ≥ c := Int.not_le.mpr (by rw [h]; exact hc)
theorem oNlt {n : Nat} {c : Int} (h : n ≤ 8) (hc : 8 ≤ c) : ¬ c < (n : Int) := Int.not_lt.mpr (Int.le_trans (Int.ofNat_le.mpr h) hc)
theorem oN88 {n m c : Nat} (h : n ≤ m) (h2 : m ≤ 8) (hc : 8 ≤ c) : n ≤ c := Nat.le_trans h (Nat.le_trans h2 hc)
theorem oNc {n : Nat} {c : Int} (hc : c ≤ 0) : c ≤ (n : Int) := Int.le_trans hc (Int.natCast_nonneg n)
theorem oU {u a b c d : Nat} (h : u + a < d) (h2 : b + c ≤ a) : u + b + c < d := by rw [Nat.add_assoc]; exact Nat.lt_of_le_of_lt (Nat.add_le_add_left h2 u) h
theorem oU1 {u a d : Nat} (h : u + a < d) : u < d := Nat.lt_of_le_of_lt (Nat.le_add_right u a) h
theorem bA0 {k : Int} {p : Nat} (h : k = 0 + (p : Int)) : 0 ≤ k := by rw [h, Int.zero_add]; exact Int.natCast_nonneg p
theorem bA5 {k : Int} {p : Nat} (h : k = 0 + (p : Int)) (h2 : p < ((5 : Int) - 0).toNat) : k < 5 := by rw [h, Int.zero_add]; exact Int.ofNat_lt.mpr h2
theorem bB5 {k i : Int} {p q : Nat} (h : k = 0 + (p : Int)) (h2 : p < (i - 0).toNat) (hi : i = 0 + (q : Int)) (hq : q < ((5 : Int) - 0).toNat) : k < 5 := by
  rw [hi, Int.zero_add, Int.sub_zero, Int.toNat_natCast] at h2
  exact bA5 h (Nat.lt_trans h2 hq)
theorem bAn {k : Int} {p : Nat} (h : k = 0 + (p : Int)) : (k - 0).toNat = p := by rw [h, Int.zero_add, Int.sub_zero, Int.toNat_natCast]
theorem bAm {k c : Int} {p : Nat} (h : k = 0 + (p : Int)) (hc : c ≤ 0) : c ≤ k := Int.le_trans hc (bA0 h)
theorem bL5 {α : Type} {l : List α} {k : Int} (hl : l.length = 5) (h : k < 5) : k < (l.length : Int) := by rw [hl]; exact h
theorem b5l {k c : Int} (h : k < 5) (hc : 5 ≤ c) : k < c := Int.lt_of_lt_of_le h hc
theorem b5e {k c : Int} (h : k < 5) (hc : 5 ≤ c) : k ≤ c := Int.le_of_lt (Int.lt_of_lt_of_le h hc)
theorem oTo {n : Nat} : ((n : Int) - 0).toNat = n := by rw [Int.sub_zero, Int.toNat_natCast]
theorem oAm {k c : Int} {p : Nat} (h : k = 0 + (p : Int)) (hc : c < 0) : c < k := Int.lt_of_lt_of_le hc (bA0 h)
theorem oAneg {k : Int} {p n : Nat} (h : k = 0 + (p : Int)) : -(n : Int) ≤ k := bAm h (Int.neg_nonpos_of_nonneg (Int.natCast_nonneg n))
theorem oAN {k : Int} {p n : Nat} (h : k = 0 + (p : Int)) (h2 : p < ((n : Int) - 0).toNat) : k < (n : Int) := by
  rw [oTo] at h2
  rw [h, Int.zero_add]
  exact Int.ofNat_lt.mpr h2
theorem oANl {α : Type} {l : List α} {k : Int} {p n : Nat} (hl : l.length = n) (h : k = 0 + (p : Int)) (h2 : p < ((n : Int) - 0).toNat) : k < (l.length : Int) := by rw [hl]; exact oAN h h2
theorem oA8 {k c : Int} {p n : Nat} (h : k = 0 + (p : Int)) (h2 : p < ((n : Int) - 0).toNat) (h3 : n ≤ 8) (hc : 8 ≤ c) : k < c :=
  Int.lt_of_lt_of_le (oAN h h2) (Int.le_trans (Int.ofNat_le.mpr h3) hc)
theorem o0neg {n : Nat} {k : Int} (h : 0 ≤ k) : -(n : Int) ≤ k := Int.le_trans (Int.neg_nonpos_of_nonneg (Int.natCast_nonneg n)) h
theorem o1lt {n : Nat} {k : Int} (h : k ≤ 0) : k - 1 < (n : Int) := Int.lt_of_lt_of_le (Int.sub_one_lt_of_le h) (Int.natCast_nonneg n)
theorem o1c {k c : Int} (h : k ≤ 0) (hc : 0 ≤ c) : k - 1 < c := Int.lt_of_lt_of_le (Int.sub_one_lt_of_le h) hc
theorem o54 {k c : Int} (h : k = 0) (hc : c < -1) : c < k - 1 := by rw [h]; exact hc
theorem o44 {n : Nat} {k c : Int} (h : -(n : Int) ≤ k) (h2 : n ≤ 8) (hc : c < -8) : c < k := Int.lt_of_lt_of_le hc (Int.le_trans (Int.neg_le_neg (Int.ofNat_le.mpr h2)) h)
theorem o16 {n : Nat} {k c : Int} (h : k ≤ (n : Int)) (h2 : n ≤ 8) (hc : 8 < c) : k < c := Int.lt_of_le_of_lt h (oLt8 h2 hc)
theorem oSub {m n : Nat} {c : Int} (h : m ≤ n) (hc : c < 0) : c < (n : Int) - m := Int.lt_of_lt_of_le hc (Int.sub_nonneg_of_le (Int.ofNat_le.mpr h))
theorem oSub8 {m n : Nat} {c : Int} (h : n ≤ 8) (hc : 8 < c) : (n : Int) - m < c := Int.lt_of_le_of_lt (Int.sub_le_self _ (Int.natCast_nonneg m)) (oLt8 h hc)
theorem oNe0 {a : Int} {P : Prop} (h2 : a ≠ 0) (h : a = 0) : P := absurd h h2
theorem oS18 {n : Nat} {k L M : Int} (h2 : (0 ≤ k → k ≤ (n : Int) → L = M) ∧ ((n : Int) ≤ k → L = 0)) (h3 : L ≠ 0) : k < (n : Int) :=
  Int.not_le.mp fun h4 => h3 (h2.2 h4)
theorem oS53 {n : Nat} {k L : Int} {M P : Prop} (h2 : (0 ≤ k → k ≤ (n : Int) → L = k) ∧ M) (h3 : L ≠ 0) (h : k = 0) : P := by
  subst h
  exact absurd (h2.1 (Int.le_refl 0) (Int.natCast_nonneg n)) h3
theorem oS1 {n L : Nat} (h : L ≤ n) (h2 : (L : Int) ≠ 0) : 1 ≤ n := Nat.le_trans (Nat.pos_of_ne_zero fun h3 => h2 (congrArg _ h3)) h
theorem oS56 {n L : Nat} {k : Int} (h : L ≤ n) (h2 : (L : Int) ≠ 0) (h3 : k = 0) : -(n : Int) ≤ k - 1 := by
  rw [h3]
  exact Int.neg_le_neg (Int.ofNat_le.mpr (oS1 h h2))
theorem oS60 {n L : Nat} {k : Int} (h : L ≤ n) (h2 : (L : Int) ≠ 0) (h3 : k = 0) : ((n : Int) + (k - 1)).toNat < ((n : Int) + k).toNat := by
  have h4 : ((n : Int) + (0 - 1)).toNat = n - 1 := Int.toNat_sub n 1
  rw [h3, h4, Int.add_zero, Int.toNat_natCast]
  exact Nat.sub_lt (oS1 h h2) (by decide)
theorem oPos {n : Nat} (h : (n : Int) ≠ 0) : 1 ≤ n := Nat.pos_of_ne_zero fun h3 => h (congrArg _ h3)
-- counting down: k is n - 1 - i
theorem fJn {k : Int} {n i : Nat} (h : k = (n : Int) - 1 - i) : k < (n : Int) := by
  rw [h]
  exact Int.lt_of_le_of_lt (Int.sub_le_self _ (Int.natCast_nonneg i)) (Int.sub_lt_self _ (by decide))
theorem fJ0 {k : Int} {n i : Nat} (h : k = (n : Int) - 1 - i) (h1 : i < n) : 0 ≤ k := by
  rw [h]
  exact Int.sub_nonneg_of_le (Int.le_sub_one_of_lt (Int.ofNat_lt.mpr h1))
theorem fLn {k : Int} {n L : Nat} (h : k < (n : Int)) (h1 : L = n + 1) : k < (L : Int) := by
  rw [h1]
  exact Int.lt_trans h (Int.ofNat_lt.mpr (Nat.lt_succ_self n))
theorem fLn1 {k : Int} {n L : Nat} (h : k < (n : Int)) (h1 : L = n + 1) : k + 1 < (L : Int) := by
  rw [h1]
  exact Int.add_lt_add_right h 1
theorem fK1 {k c : Int} {n : Nat} (h : k < (n : Int)) (h1 : n ≤ 8) (hc : 8 < c) : k + 1 < c := Int.lt_of_le_of_lt (Int.add_one_le_of_lt h) (oLt8 h1 hc)
theorem fKc {k c : Int} {n : Nat} (h : k < (n : Int)) (h1 : n ≤ 8) (hc : 8 < c) : k < c := Int.lt_trans h (oLt8 h1 hc)
theorem f0m {k c : Int} (h : 0 ≤ k) (hc : c < 0) : c < k := Int.lt_of_lt_of_le hc h
theorem f50 {L i n c : Nat} (h : L = i + 1) (h1 : i < n) (h2 : n ≤ 8) (hc : 9 ≤ c) : 0 + 1 + L ≤ c := by
  rw [h, Nat.zero_add, Nat.add_comm]
  exact Nat.le_trans (Nat.succ_le_succ (Nat.le_trans h1 h2)) hc
theorem f12 {n c : Nat} (h : n ≤ 8) (hc : 9 ≤ c) : ((n : Int) + 1 - 0).toNat ≤ c := by
  rw [Int.sub_zero]
  exact Nat.le_trans (Nat.succ_le_succ h) hc
theorem f25 {n L : Nat} (h : L = n + 1) : -(L : Int) ≤ -1 := by
  rw [h]
  exact Int.neg_le_neg (Int.ofNat_le.mpr (Nat.succ_le_succ (Nat.zero_le n)))
theorem f57 {n L : Nat} (h : L = n + 1) : 0 < (L : Int) := by
  rw [h]
  exact Int.ofNat_lt.mpr (Nat.succ_pos n)
theorem f10 {n : Nat} {c : Int} (hc : c ≤ 0) : c ≤ (n : Int) + 1 := Int.le_trans hc (Int.natCast_nonneg (n + 1))
theorem f11 {n : Nat} {c : Int} (h : n ≤ 8) (hc : 9 < c) : (n : Int) + 1 < c := Int.lt_of_le_of_lt (Int.add_le_add_right (Int.ofNat_le.mpr h) 1) hc
-- the graph's masks: k is 1 + p
theorem sA {k c : Int} {p : Nat} (h : k = 1 + (p : Int)) (h1 : p < 31) (hc : 32 ≤ c) : k < c := by
  rw [h, Int.add_comm]
  exact Int.lt_of_lt_of_le (Int.add_lt_add_right (Int.ofNat_lt.mpr h1) 1) hc
theorem sE {k : Int} {p L : Nat} (h : k = 1 + (p : Int)) (h1 : L = p + 1) : k = (L : Int) := by rw [h, h1, Int.add_comm]; rfl
theorem sL {p L c : Nat} (h1 : L = p + 1) (h : p < 31) (hc : 31 ≤ c) : L ≤ c := by rw [h1]; exact Nat.le_trans h hc
theorem s5c {n : Nat} {c : Int} (h : n ≤ 5) (hc : 5 < c) : (n : Int) < c := Int.lt_of_le_of_lt (Int.ofNat_le.mpr h) hc
theorem s6 {m : Nat} {k : Int} (h : k ≤ 5) (h1 : m = 6) : k < (m : Int) := by rw [h1]; exact Int.lt_of_le_of_lt h (by decide)
theorem sM1 {k : Int} {L : Nat} (hL : L = 6) (h : 1 ≤ k) : 0 < min (k + 1).toNat L := by
  rw [hL]
  exact Nat.lt_min.mpr ⟨Int.lt_toNat.mpr (Int.lt_of_lt_of_le (by decide) (Int.le_add_of_nonneg_left (Int.le_trans (by decide) h))), by decide⟩
theorem sM {k : Int} {L : Nat} (hL : L = 6) (h : 1 ≤ k) : 0 < min k.toNat L := by
  rw [hL]
  exact Nat.lt_min.mpr ⟨Int.lt_toNat.mpr (Int.lt_of_lt_of_le (by decide) h), by decide⟩
theorem s1k {k : Int} (h : 1 ≤ k) : 0 ≤ k := Int.le_trans (by decide) h
theorem s1k1 {k : Int} (h : 0 ≤ k) : 0 ≤ k + 1 := Int.add_nonneg h (by decide)
theorem aNe1 {W L : Nat} (h : W < L) : W ≠ L + 1 := Nat.ne_of_lt (Nat.lt_succ_of_lt h)
theorem aNe2 {W L : Nat} (h : W < L) : W ≠ L + 1 + 1 := aNe1 (Nat.lt_succ_of_lt h)
theorem aNe3 {W L : Nat} (h : W < L) : W ≠ L + 1 + 1 + 1 := aNe2 (Nat.lt_succ_of_lt h)
theorem low_done {d e v u : Nat} {m : Int} (h : (d : Int) - 1 ≤ m) (h2 : e = d) (h3 : m < ((v : Int) - u) * 2) (h4 : 2 * ((v : Int) - u) ≤ e) : m + 1 = d := by
  subst h2
  rw [Int.mul_comm] at h3
  exact Int.le_antisymm (Int.add_one_le_of_lt (Int.lt_of_lt_of_le h3 h4)) (Int.le_add_of_sub_right_le h)
theorem le_by {d e : Nat} {m : Int} (h2 : e = d) (h : (d : Int) - 1 ≤ m) : (e : Int) - 1 ≤ m := by rw [h2]; exact h
theorem sF {x k : Int} {p L : Nat} (h : k = 1 + (p : Int)) (h1 : L = p + 1) (hx : x < k) : x < (L : Int) := by rw [← sE h h1]; exact hx
theorem dI {i a c : Nat} (h : i < 5) (h1 : a = i) (hc : 5 ≤ c) : a < c := by rw [h1]; exact Nat.lt_of_lt_of_le h hc
theorem dK {i : Nat} {k c : Int} (h : i < 5) (h1 : k = (i : Int)) (hc : 5 ≤ c) : k < c := by rw [h1]; exact Int.lt_of_lt_of_le (Int.ofNat_lt.mpr h) hc
theorem dK0 {i : Nat} {k : Int} (h1 : k = (i : Int)) : 0 ≤ k := by rw [h1]; exact Int.natCast_nonneg i
theorem dS {n c : Int} (h : n ≤ 54) (hc : 47 < c) : n - 7 < c := Int.lt_of_le_of_lt (Int.sub_le_sub_right h 7) hc
end Mine
end
section
open PySem PySem.W PyProof.Rows PySem.Calls
set_option maxRecDepth 100000
namespace Mine
section
variable {M : Model} {A : Around} {E : Value → Shared → Prop} {s : Shared} {env : Env} {Q : Flow → Shared → Prop} {g : Heap} {L : Addr} {m : Str → Option Value} {news : List (Addr × Obj)}
theorem execs_split_wp {Γ : Ctx} (hΓ : Γ.In A) {l2 : List Stmt} : ∀ (l1 : List Stmt) (p : Pos) (s : Shared),
    Sem.wp M Γ (execs l1 env) (fun f _ s' => match f with | .next => wpAny M A (execs l2 env) Q E s' | f' => Q f' s') (fun e _ s' => E e s') p s →
    Sem.wp M Γ (execs (l1 ++ l2) env) (fun f _ s' => Q f s') (fun e _ s' => E e s') p s
  | [], p, s, h => h Γ p hΓ
  | st :: l1, p, s, h => by
    rw [List.cons_append, execs_cons]
    rw [execs_cons] at h
    rw [Sem.wp_bind'] at h ⊢
    refine Sem.wp_mono M Γ (exec st env) (fun f p' s' q => ?_) (fun _ _ _ q => q) p s h
    cases f with
    | next => exact execs_split_wp hΓ l1 p' s' q
    | brk => exact q
    | cont => exact q
    | ret v => exact q
theorem cut_split {σ : Type} {l1 l2 : List Stmt} (_F : Fr g L s.heap m) (_N : News g L s.heap news) (ps : σ → List (Str × Value)) (P : σ → Prop)
    (h1 : wpAny M A (execs l1 env) (CutPost g L s news ps P Q) E s)
    (h2 : ∀ (c : σ) (h : Heap) (tk : Nat) (m' : Str → Option Value), P c → Fr g L h (kstB m' (ps c)) → News g L h news → wpAny M A (execs l2 env) Q E { s with heap := h, toks := tk }) :
    wpAny M A (execs (l1 ++ l2) env) Q E s := by
  intro Γ p hΓ
  refine execs_split_wp hΓ l1 p s (Sem.wp_mono M Γ _ (fun f p' s' q => ?_) (fun _ _ _ q => q) p s (h1 Γ p hΓ))
  cases f with
  | next =>
    obtain ⟨c, h, tk, m', rfl, F', N', hk, hp⟩ := q
    exact h2 c h tk m' hp (fr_names F' hk) N'
  | brk => exact q
  | cont => exact q
  | ret v => exact q
theorem cut_two {σ : Type} {s1 s2 : Stmt} {l2 : List Stmt} (F : Fr g L s.heap m) (N : News g L s.heap news) (ps : σ → List (Str × Value)) (P : σ → Prop)
    (h1 : wpAny M A (execs [s1, s2] env) (CutPost g L s news ps P Q) E s)
    (h2 : ∀ (c : σ) (h : Heap) (tk : Nat) (m' : Str → Option Value), P c → Fr g L h (kstB m' (ps c)) → News g L h news → wpAny M A (execs l2 env) Q E { s with heap := h, toks := tk }) :
    wpAny M A (execs (s1 :: s2 :: l2) env) Q E s := cut_split (l1 := [s1, s2]) F N ps P h1 h2
end
-- slices of texts
theorem cl_from {x : Str} {k : Int} (h0 : 0 ≤ k) (h1 : k ≤ (x.length : Int)) : cl (Txt.slice x (some k) none) = (cl x).drop k.toNat := by
  rw [slice_from_eq h0 h1 rfl]
  unfold cl
  have : ((x.cps.toList.drop k.toNat).length) ≤ ((x.length : Int) - k).toNat := by rw [List.length_drop]; simp only [Array.length_toList, Str.length]; unfold Str.length at h1; omega
  simp only []
  rw [List.take_of_length_le this]
theorem cl_to {x : Str} {k : Int} (h0 : 0 ≤ k) (h1 : k ≤ (x.length : Int)) : cl (Txt.slice x none (some k)) = (cl x).take k.toNat := by
  rw [beq_iff_eq.mp (slice_closes_toL h0 h1)]
  simp [cl]
theorem slice_neg {x : Str} {j : Int} (h0 : -(x.length : Int) ≤ j) (h1 : j < 0) : Txt.slice x none (some j) = Txt.slice x none (some ((x.length : Int) + j)) := by
  have e : Builtin.Str.strSliceIndices none (some j) 1 x.length = Builtin.Str.strSliceIndices none (some ((x.length : Int) + j)) 1 x.length := by
    have h2 : ¬ ((x.length : Int) + j < 0) := by omega
    have h3 : (1 : Int) > 0 := by decide
    have h4 : max (j + (x.length : Int)) 0 = j + x.length := by omega
    have h5 : min ((x.length : Int) + j) (x.length : Int) = x.length + j := by omega
    simp only [Builtin.Str.strSliceIndices, h1, h2, h3, if_true, if_false]
    first
      | (congr 1; omega)
      | (congr 2; omega)
  unfold Txt.slice
  rw [e]
theorem cl_back {x : Str} {j : Int} (h0 : -(x.length : Int) ≤ j) (h1 : j < 0) : cl (Txt.slice x none (some j)) = (cl x).take ((x.length : Int) + j).toNat := by
  rw [slice_neg h0 h1, cl_to (by omega) (by omega)]
theorem cl_whole (x : Str) : cl (Txt.slice x none none) = cl x := by
  have e : Txt.slice x none none = Txt.slice x none (some (x.length : Int)) := by
    have : Builtin.Str.strSliceIndices none none 1 x.length = Builtin.Str.strSliceIndices none (some (x.length : Int)) 1 x.length := by
      have h2 : ¬ ((x.length : Int) < 0) := by omega
      have h3 : (1 : Int) > 0 := by decide
      have h4 : max 0 (x.length : Int) = x.length := by omega
      simp only [Builtin.Str.strSliceIndices, h2, h3, if_true, if_false, Int.min_self, h4]
    unfold Txt.slice
    rw [this]
  rw [e, cl_to (by omega) (Int.le_refl _)]
  rw [List.take_of_length_le]
  rw [cl_len]; omega
theorem item_cl {x : Str} {k : Int} (h0 : 0 ≤ k) (h1 : k < (x.length : Int)) : Txt.item x k = ⟨#[(cl x).getD k.toNat 0]⟩ := by
  rw [item_meets ⟨h0, h1⟩]; simp [cl]
theorem item_back {x : Str} {j : Int} (h0 : -(x.length : Int) ≤ j) (h1 : j < 0) : Txt.item x j = ⟨#[(cl x).getD ((x.length : Int) + j).toNat 0]⟩ := by
  have h2 : ¬ ((x.length : Int) + j < 0) := by omega
  have e1 : seqIndex? j x.length = seqIndex? ((x.length : Int) + j) x.length := by
    unfold seqIndex?
    rw [if_pos h1, if_neg h2, Int.add_comm]
  have e : Txt.item x j = Txt.item x ((x.length : Int) + j) := by
    unfold Txt.item Txt.charAt
    rw [e1]
  rw [e, item_cl (by omega) (by omega)]
theorem item_beq {x y : Nat} : ((⟨#[x]⟩ : Str) == ⟨#[y]⟩) = decide (x = y) := by
  by_cases h : x = y
  · subst h; simp
  · have h' : (⟨#[x]⟩ : Str) ≠ ⟨#[y]⟩ := by
      intro e; simp only [Str.mk.injEq, Array.mk.injEq, List.cons.injEq, and_true] at e; exact h e
    simp [h, h']
end Mine
end
section
open PySem PySem.W PyProof.Rows PySem.Calls
namespace Mine
section
variable {c : Nat → Nat → Nat}
theorem d_pre (h : ∀ x, c x x = 0) (u v : List Nat) : ∀ p : List Nat, dist c (p ++ u) (p ++ v) = dist c u v
  | [] => rfl
  | x :: p => by rw [List.cons_append, List.cons_append, d_strip (h x), d_pre h u v p]
theorem d_post (h : ∀ x, c x x = 0) (u v p : List Nat) : dist c (u ++ p) (v ++ p) = dist c u v := by
  have e := d_rev (c := c) (u ++ p) (v ++ p)
  rw [List.reverse_append, List.reverse_append, d_pre h, d_rev] at e
  exact e.symm
end
theorem DD_symm (x y : Str) : DD x y = DD y x := d_symm cc_symm _ _
theorem DD_empty {x y : Str} (h : x.length = 0 ∨ y.length = 0) : (DD x y : Int) = 2 * ((x.length : Int) + y.length) := by
  unfold DD
  rcases h with h | h
  · have : cl x = [] := List.eq_nil_of_length_eq_zero (by rw [cl_len, h])
    rw [this, d_nil, cl_len, h]; omega
  · have : cl y = [] := List.eq_nil_of_length_eq_zero (by rw [cl_len, h])
    rw [this, d_nil', cl_len, h]; omega
theorem DD_low (x y : Str) : 2 * ((y.length : Int) - x.length) ≤ DD x y := by
  have := (d_low (c := cc) (cl x) (cl y)).1
  rw [cl_len, cl_len] at this
  unfold DD; omega
-- the strip from ahead
noncomputable def PreInv (a b : Str) (k : Int) : Prop := (cl a).take k.toNat = (cl b).take k.toNat
noncomputable abbrev PreW (a b : Str) (k : Int) : Prop := PreInv a b k ∧ 0 ≤ k ∧ k ≤ (a.length : Int) ∧ k ≤ (b.length : Int)
theorem pre_start {a b : Str} : PreW a b 0 := ⟨rfl, Int.le_refl _, by omega, by omega⟩
theorem take_next {l : List Nat} {k : Nat} (h : k < l.length) : l.take (k + 1) = l.take k ++ [l.getD k 0] := by
  rw [List.take_add_one, List.getElem?_eq_getElem h, List.getD_eq_getElem?_getD, List.getElem?_eq_getElem h]; rfl
theorem pre_lt {a : Str} {k : Int} (ha : k ≤ (a.length : Int)) (fa : (0 ≤ k → k ≤ (a.length : Int) → ((Txt.slice a (some k) none).length : Int) = a.length - k) ∧ ((a.length : Int) ≤ k → ((Txt.slice a (some k) none).length : Int) = 0)) (na : ((Txt.slice a (some k) none).length : Int) ≠ 0) : k < (a.length : Int) :=
  Int.not_le.mp fun h => na (fa.2 h)
theorem pre_meas {a : Str} {k : Int} (h0 : 0 ≤ k) (ha : k ≤ (a.length : Int)) (fa : (0 ≤ k → k ≤ (a.length : Int) → ((Txt.slice a (some k) none).length : Int) = a.length - k) ∧ ((a.length : Int) ≤ k → ((Txt.slice a (some k) none).length : Int) = 0)) (na : ((Txt.slice a (some k) none).length : Int) ≠ 0) : a.length - (k + 1).toNat < a.length - k.toNat := by
  have la := pre_lt ha fa na
  clear fa na ha
  omega
theorem post_meas {x : Str} {k : Int} (h1 : -(x.length : Int) ≤ k - 1) : ((x.length : Int) + (k - 1)).toNat < ((x.length : Int) + k).toNat := by omega
theorem pre_step {a b : Str} {k : Int} (h : PreInv a b k) (h0 : 0 ≤ k) (ha : k ≤ (a.length : Int)) (hb : k ≤ (b.length : Int))
    (fa : (0 ≤ k → k ≤ (a.length : Int) → ((Txt.slice a (some k) none).length : Int) = a.length - k) ∧ ((a.length : Int) ≤ k → ((Txt.slice a (some k) none).length : Int) = 0)) (na : ((Txt.slice a (some k) none).length : Int) ≠ 0)
    (fb : (0 ≤ k → k ≤ (b.length : Int) → ((Txt.slice b (some k) none).length : Int) = b.length - k) ∧ ((b.length : Int) ≤ k → ((Txt.slice b (some k) none).length : Int) = 0)) (nb : ((Txt.slice b (some k) none).length : Int) ≠ 0)
    (e : (Txt.item a k == Txt.item b k) = true) : PreW a b (k + 1) := by
  have la : k < (a.length : Int) := pre_lt ha fa na
  have lb : k < (b.length : Int) := pre_lt hb fb nb
  clear fa fb na nb
  refine ⟨?_, by omega, by omega, by omega⟩
  rw [item_cl h0 la, item_cl h0 lb, item_beq, decide_eq_true_eq] at e
  unfold PreInv at *
  have e1 : (k + 1).toNat = k.toNat + 1 := by omega
  rw [e1, take_next (by rw [cl_len]; omega), take_next (by rw [cl_len]; omega), h, e]
theorem pre_done {a b : Str} {k : Int} (h : PreW a b k) : DD (Txt.slice a (some k) none) (Txt.slice b (some k) none) = DD a b := by
  obtain ⟨h, h0, ha, hb⟩ := h
  unfold DD
  rw [cl_from h0 ha, cl_from h0 hb]
  have e := d_pre cc_self ((cl a).drop k.toNat) ((cl b).drop k.toNat) ((cl a).take k.toNat)
  rw [List.take_append_drop] at e
  unfold PreInv at h
  rw [h, List.take_append_drop] at e
  exact e.symm
-- the strip from behind
noncomputable def PostInv (a b : Str) (k : Int) : Prop := (cl a).drop ((a.length : Int) + k).toNat = (cl b).drop ((b.length : Int) + k).toNat
noncomputable abbrev PostW (a b : Str) (k : Int) : Prop := PostInv a b k ∧ k ≤ 0 ∧ -(a.length : Int) ≤ k ∧ -(b.length : Int) ≤ k
theorem post_start {a b : Str} : PostW a b 0 := by
  refine ⟨?_, Int.le_refl _, by omega, by omega⟩
  unfold PostInv
  rw [List.drop_of_length_le (by rw [cl_len]; omega), List.drop_of_length_le (by rw [cl_len]; omega)]
theorem drop_prev {l : List Nat} {k : Nat} (h : k < l.length) : l.drop k = l.getD k 0 :: l.drop (k + 1) := by
  rw [List.drop_eq_getElem_cons h, List.getD_eq_getElem?_getD, List.getElem?_eq_getElem h]; rfl
theorem post_e {n : Nat} {k : Int} (h : -(n : Int) < k) : ((n : Int) + k).toNat = ((n : Int) + (k - 1)).toNat + 1 := by omega
theorem post_in {n : Nat} {k : Int} (h : k ≤ 0) (h2 : -(n : Int) < k) : ((n : Int) + (k - 1)).toNat < n := by omega
theorem post_ge {n : Nat} {k : Int} (h : -(n : Int) < k) : -(n : Int) ≤ k - 1 := by omega
theorem post_neg {k : Int} (h : k ≤ 0) : k - 1 < 0 := by omega
theorem post_next {a b : Str} {k : Int} (h : PostInv a b k) (h0 : k ≤ 0) (ha : -(a.length : Int) < k) (hb : -(b.length : Int) < k) (e : (Txt.item a (k - 1) == Txt.item b (k - 1)) = true) : PostW a b (k - 1) := by
  refine ⟨?_, Int.le_of_lt (post_neg h0), post_ge ha, post_ge hb⟩
  rw [item_back (post_ge ha) (post_neg h0), item_back (post_ge hb) (post_neg h0), item_beq, decide_eq_true_eq] at e
  unfold PostInv at *
  rw [post_e ha, post_e hb] at h
  rw [drop_prev (by rw [cl_len]; exact post_in h0 ha), drop_prev (l := cl b) (by rw [cl_len]; exact post_in h0 hb), h, e]
theorem post_done {a b : Str} {k : Int} (h : PostW a b k) (hk : k < 0) : DD (Txt.slice a none (some k)) (Txt.slice b none (some k)) = DD a b := by
  obtain ⟨h, h0, ha, hb⟩ := h
  unfold DD
  rw [cl_back ha hk, cl_back hb hk]
  have e := d_post cc_self ((cl a).take ((a.length : Int) + k).toNat) ((cl b).take ((b.length : Int) + k).toNat) ((cl a).drop ((a.length : Int) + k).toNat)
  rw [List.take_append_drop] at e
  unfold PostInv at h
  rw [h, List.take_append_drop] at e
  exact e.symm
theorem post_done0 {a b : Str} : DD (Txt.slice a none none) (Txt.slice b none none) = DD a b := by
  unfold DD; rw [cl_whole, cl_whole]
structure Mk1 : Prop where
theorem back_room1 {x : Str} {k : Int} (h2 : -(x.length : Int) ≤ k) (h1 : k ≤ 0) (h0 : k ≠ 0) (h3 : ((Txt.slice x none (some k)).length : Int) ≠ 0) : -(x.length : Int) ≤ k - 1 ∧ -(x.length : Int) < k := by
  have e := cl_back h2 (by omega : k < 0)
  have e2 := congrArg List.length e
  rw [cl_len, List.length_take, cl_len] at e2
  omega
theorem back_room0 {x : Str} {k : Int} (h2 : -(x.length : Int) ≤ k) (h0 : k = 0) (h3 : ((Txt.slice x none none).length : Int) ≠ 0) : -(x.length : Int) ≤ k - 1 ∧ -(x.length : Int) < k := by
  have e2 := congrArg List.length (cl_whole x)
  rw [cl_len, cl_len] at e2
  omega
theorem cut_len (a : Str) (k : Int) : (Txt.slice a (some k) none).length ≤ a.length := Txt.slice_le _ _ _
end Mine
end
section
open PySem PySem.W PyProof.Rows PySem.Calls
set_option maxRecDepth 100000
namespace Mine
/-- the ends' table: the first t signs of v against the first j of u -/
noncomputable def Dp (u v : Str) (t j : Nat) : Nat := dist cc ((cl v).take t) ((cl u).take j)
noncomputable def row0 (n : Nat) : List Int := (List.range n).map fun (k : Nat) => 2 * ((k : Int) + 1)
noncomputable def rowAt (u v : Str) (t i : Nat) : List Int := (List.range u.length).map fun k => if k < i then (Dp u v (t + 1) (k + 1) : Int) else (Dp u v t (k + 1) : Int)
noncomputable def minAt (u v : Str) (t : Nat) : Nat → Int
  | 0 => 9223372036854775807
  | i + 1 => if (Dp u v (t + 1) (i + 1) : Int) < minAt u v t i then (Dp u v (t + 1) (i + 1) : Int) else minAt u v t i
theorem rowAt_len (u v : Str) (t i : Nat) : (rowAt u v t i).length = u.length := by simp [rowAt]
theorem row0_len (n : Nat) : (row0 n).length = n := by simp [row0]
theorem row0_is (u v : Str) : row0 u.length = rowAt u v 0 0 := by
  unfold row0 rowAt
  apply List.map_congr_left
  intro k hk
  have hk' := List.mem_range.mp hk
  have e : ((cl u).take (k + 1)).length = k + 1 := by rw [List.length_take, cl_len]; omega
  simp only [Nat.not_lt_zero, if_false, Dp, List.take_zero, d_nil, e]
  omega
theorem rowAt_end (u v : Str) (t : Nat) : rowAt u v t u.length = rowAt u v (t + 1) 0 := by
  unfold rowAt
  apply List.map_congr_left
  intro k hk
  have hk' := List.mem_range.mp hk
  simp [hk']
theorem rowAt_get {u v : Str} {t i : Nat} (h : i < u.length) : (rowAt u v t i).getD i 0 = Dp u v t (i + 1) := by
  unfold rowAt
  rw [List.getD_eq_getElem?_getD, List.getElem?_map, List.getElem?_range h]
  simp
theorem rowAt_get? (u v : Str) (t i k : Nat) : (rowAt u v t i)[k]? = if k < u.length then some (if k < i then (Dp u v (t + 1) (k + 1) : Int) else (Dp u v t (k + 1) : Int)) else none := by
  unfold rowAt
  rw [List.getElem?_map]
  by_cases h : k < u.length
  · rw [List.getElem?_range h, if_pos h]; rfl
  · rw [if_neg h, List.getElem?_eq_none (by simpa using h)]; rfl
theorem rowAt_set {u v : Str} {t i : Nat} (h : i < u.length) : (rowAt u v t i).set i (Dp u v (t + 1) (i + 1) : Int) = rowAt u v t (i + 1) := by
  apply List.ext_getElem?
  intro k
  rw [List.getElem?_set, rowAt_len, rowAt_get?, rowAt_get?]
  by_cases e : i = k
  · subst e; simp [h]
  · rw [if_neg e]
    by_cases hk : k < u.length
    · rw [if_pos hk, if_pos hk]
      by_cases e2 : k < i
      · rw [if_pos e2, if_pos (by omega)]
      · rw [if_neg e2, if_neg (by omega)]
    · rw [if_neg hk, if_neg hk]
theorem dp_step {u v : Str} {t i : Nat} (ht : t < v.length) (hi : i < u.length) :
    Dp u v (t + 1) (i + 1) = min (cc ((cl v).getD t 0) ((cl u).getD i 0) + Dp u v t i) (min (2 + Dp u v (t + 1) i) (2 + Dp u v t (i + 1))) := by
  unfold Dp
  rw [take_next (l := cl v) (by rw [cl_len]; exact ht), take_next (l := cl u) (by rw [cl_len]; exact hi), d_snoc]
theorem dp_zero (u v : Str) (t : Nat) (ht : t ≤ v.length) : Dp u v t 0 = 2 * t := by
  unfold Dp
  rw [List.take_zero, d_nil', List.length_take, cl_len, Nat.min_eq_left ht]
theorem dp_end (u v : Str) : Dp u v v.length u.length = DD u v := by
  unfold Dp
  rw [← cl_len u, ← cl_len v, List.take_length, List.take_length, d_symm cc_symm]
  rfl
theorem minAt_le {u v : Str} {t : Nat} : ∀ {n j : Nat}, 1 ≤ j → j ≤ n → minAt u v t n ≤ Dp u v (t + 1) j
  | 0, j, h1, h2 => by omega
  | n + 1, j, h1, h2 => by
    unfold minAt
    by_cases e : j = n + 1
    · subst e; split <;> omega
    · have := minAt_le (u := u) (v := v) (t := t) (n := n) (j := j) h1 (by omega)
      split <;> omega
theorem lev_early {u v : Str} {t : Nat} {mc : Int} (ht : t < v.length) (hu : 1 ≤ u.length) (hm : mc < minAt u v t u.length) (hd : (DD u v : Int) - 1 ≤ mc) : mc + 1 = DD u v := by
  obtain ⟨j, hj, hr⟩ := d_row (c := cc) ((cl v).drop (t + 1)) ((cl v).take (t + 1)) (cl u)
  rw [List.take_append_drop, d_symm cc_symm (cl v)] at hr
  rw [cl_len] at hj
  have hle : minAt u v t u.length ≤ (DD u v : Int) := by
    have hr' : Dp u v (t + 1) j ≤ DD u v := hr
    by_cases h0 : j = 0
    · subst h0
      have h1 := minAt_le (u := u) (v := v) (t := t) (n := u.length) (j := 1) (Nat.le_refl _) hu
      have h2 := dp_step (u := u) (v := v) (t := t) (i := 0) ht hu
      have h3 := dp_zero u v t (by omega)
      have h4 := dp_zero u v (t + 1) (by omega)
      have h5 := cc_le ((cl v).getD t 0) ((cl u).getD 0 0)
      simp only [Nat.zero_add] at h2
      have q : cc ((cl v).getD t 0) ((cl u).getD 0 0) + Dp u v t 0 ≤ Dp u v (t + 1) 0 := by
        rw [h3, h4, Nat.add_comm]; exact Nat.add_le_add_left h5 _
      exact Int.le_trans h1 (Int.ofNat_le.mpr (by rw [h2]; exact Nat.le_trans (Nat.min_le_left _ _) (Nat.le_trans q hr')))
    · have h1 := minAt_le (u := u) (v := v) (t := t) (n := u.length) (j := j) (Nat.pos_of_ne_zero h0) hj
      exact Int.le_trans h1 (Int.ofNat_le.mpr hr')
  exact Int.le_antisymm (Int.le_trans (Int.add_one_le_of_lt hm) hle) (Int.le_add_of_sub_right_le hd)
theorem dp_bound {u v : Str} {t j : Nat} (hu : u.length ≤ 8) (hv : v.length ≤ 8) : Dp u v t j ≤ 32 := by
  unfold Dp
  have h := d_high (c := cc) ((cl v).take t) ((cl u).take j)
  rw [List.length_take, List.length_take, cl_len, cl_len] at h
  omega
-- list(range(2, 2 * (n + 1), 2))
theorem ints_map (f : Nat → Int) : ∀ (vs : List Value) (k n : Nat), vs.length = n → (∀ (j : Nat) (v : Value), vs[j]? = some v → ∃ t, v = .int (f (k + j)) t) → IntsAre vs ((List.range' k n).map f)
  | [], k, n, e, _ => by subst e; exact IntsAre.nil
  | v :: r, k, n, e, h => by
    subst e
    rw [List.length_cons, List.range'_succ, List.map_cons]
    obtain ⟨t, ht⟩ := h 0 v rfl
    subst ht
    refine IntsAre.cons _ _ (ints_map f r (k + 1) r.length rfl fun j v hj => ?_)
    obtain ⟨t', ht'⟩ := h (j + 1) v hj
    exact ⟨t', ht'.trans (by congr 2; omega)⟩
section
variable {prog : Program} {w : World} {A : Around} {E : Value → Shared → Prop} {s : Shared} {h₀ : Heap} {L r : Addr} {m : Str → Option Value} {news : List (Addr × Obj)} {t₀ u₀ v₀ : Tok} {n : Nat} {Q : Value → Shared → Prop}
theorem list_range2 (hh : A.handled = none) (F : Fr h₀ L s.heap m) (N : News h₀ L s.heap news) (hr : IsRange s.heap r 2 (2 * ((n : Int) + 1)) 2 t₀ u₀ v₀) (hz : n ≤ 1000)
    (h : ∀ D us c h' tk, Fr h₀ L h' m → News h₀ L h' ((D, listOf (List.toArray us) c) :: news) → (∀ p ∈ news, p.1 < D) → IntsAre us (row0 n) → Q (.ref D) { s with heap := h', toks := tk }) :
    wpAny (model prog w) A (call (.type "list") [.ref r]) Q E s := by
  have hn : Builtin.Range.rangeSize 2 (2 * ((n : Int) + 1)) 2 = (n : Int) := by
    unfold Builtin.Range.rangeSize
    rw [if_pos (by decide)]
    split <;> omega
  have f : ∀ i : Int, -100000 ≤ i → i ≤ 100000 → Builtin.Range.rangeFitsLong i = true := fun i h1 h2 => by
    unfold Builtin.Range.rangeFitsLong
    rw [Bool.and_eq_true, decide_eq_true_eq, decide_eq_true_eq]; omega
  have hsm : Builtin.Range.small 2 (2 * ((n : Int) + 1)) 2 = true := by
    unfold Builtin.Range.small
    rw [hn, if_pos (by decide), f 2 (by omega) (by omega), f (2 * ((n : Int) + 1)) (by omega) (by omega), f n (by omega) (by omega), f (2 * ((n : Int) + 1) + (2 - 1)) (by omega) (by omega), Bool.or_true]
    rfl
  refine call_list_range hh hr hsm hn (Nat.le_trans hz (Nat.le_of_ble_eq_true rfl)) fun h' tk acc c hk hD hI => ?_
  have hD' : h'.get? s.heap.objs.size = some (listOf (List.toArray acc.toList) c) := by
    rw [Array.toArray_toList]
    exact hD
  refine h _ acc.toList c h' tk (F.keeps hk) (news_pushed F N hk hD' rfl) (fun p hp => Heap.lt_size (N p hp).1) ?_
  have := ints_map (fun (k : Nat) => 2 * ((k : Int) + 1)) acc.toList 0 n (by rw [Array.length_toList]; exact hI.1) (fun j v hj => by
    obtain ⟨t, e⟩ := hI.2 j v (by rw [← hj, Array.getElem?_toList])
    have e3 : (2 : Int) + (j : Int) * 2 = 2 * (((0 + j : Nat) : Int) + 1) := by omega
    exact ⟨t, by rw [e, e3]⟩)
  unfold row0
  rw [List.range_eq_range']
  exact this
end
end Mine
namespace Mine
structure LevOut (u v : Str) (t : Nat) (row : List Int) (res : Int) : Prop where
  row : row = rowAt u v t 0
  res : t = 0 ∨ res = (Dp u v t u.length : Int)
structure LevIn (u v : Str) (t i : Nat) (dist res : Int) (row : List Int) (mn : Int) : Prop where
  row : row = rowAt u v t i
  dist : dist = (Dp u v t i : Int)
  res : (i = 0 ∧ res = 2 * (t : Int)) ∨ (1 ≤ i ∧ res = (Dp u v (t + 1) i : Int))
  mn : mn = minAt u v t i
theorem levOut_start (u v : Str) (r : Int) : LevOut u v ([] : List Int).length (row0 u.length) r ∧ (row0 u.length).length = u.length := ⟨⟨row0_is _ _, .inl rfl⟩, row0_len _⟩
theorem levIn_start {u v : Str} {t : Nat} {row : List Int} {r k : Int} (h : LevOut u v t row r) (hl : row.length = u.length) (hk : k = 0 + (t : Int)) (ht : t < ((v.length : Int) - 0).toNat) :
    LevIn u v t ([] : List Int).length (k * 2) (k * 2) row 9223372036854775807 ∧ row.length = u.length := by
  have := dp_zero u v t (by omega)
  exact ⟨⟨h.row, by rw [List.length_nil, this]; omega, .inl ⟨rfl, by omega⟩, rfl⟩, hl⟩
theorem lev_cost {u v : Str} {k k' : Int} {t i : Nat} (hk : k = 0 + (i : Int)) (hi : i < ((u.length : Int) - 0).toNat) (hk' : k' = 0 + (t : Int)) (ht : t < ((v.length : Int) - 0).toNat) :
    scost (Txt.item v k') (Txt.item u k) = (cc ((cl v).getD t 0) ((cl u).getD i 0) : Int) := by
  rw [Int.sub_zero, Int.toNat_natCast] at hi ht
  rw [Int.zero_add] at hk hk'
  subst hk hk'
  rw [item_cl (Int.natCast_nonneg _) (Int.ofNat_lt.mpr ht), item_cl (Int.natCast_nonneg _) (Int.ofNat_lt.mpr hi), scost_cc, Int.toNat_natCast, Int.toNat_natCast]
theorem if_min (a b : Nat) : (if (a : Int) < b then (a : Int) else b) = ((min a b : Nat) : Int) := by
  split <;> omega
theorem next_else {D P Q S c : Nat} (st : D = min (c + P) (min (2 + S) (2 + Q))) :
    (if (P : Int) + c < (if (Q : Int) < S then (Q : Int) else S) + 2 then (P : Int) + c else (if (Q : Int) < S then (Q : Int) else S) + 2) = (D : Int) := by
  have e : ((min Q S : Nat) : Int) + 2 = ((min Q S + 2 : Nat) : Int) := rfl
  have e2 : (P : Int) + c = ((P + c : Nat) : Int) := rfl
  rw [if_min, e, e2, if_min, st]
  congr 1
  rw [Nat.add_comm P c, Nat.min_comm Q S, ← Nat.add_min_add_right, Nat.add_comm S 2, Nat.add_comm Q 2]
theorem next_first {D P Q S c t : Nat} {r : Int} (st : D = min (c + P) (min (2 + S) (2 + Q))) (hP : P = 2 * t) (hS : S = 2 * (t + 1)) (hc : c ≤ 2) (hr : r = 2 * (t : Int)) :
    (if (P : Int) + c < (if (Q : Int) < r then (Q : Int) else r) + 2 then (P : Int) + c else (if (Q : Int) < r then (Q : Int) else r) + 2) = (D : Int) := by
  have hr' : r = (P : Int) := by rw [hr, hP]; rfl
  have e : D = min (c + P) (min (2 + P) (2 + Q)) := by
    have h1 : c + P ≤ 2 + P := Nat.add_le_add_right hc P
    have h2 : 2 + P ≤ 2 + S := by clear st hc h1 hr hr'; omega
    rw [st, ← Nat.min_assoc, ← Nat.min_assoc, Nat.min_eq_left h1, Nat.min_eq_left (Nat.le_trans h1 h2)]
  rw [hr']
  exact next_else e
theorem levIn_next {u v : Str} {t : Nat} {pre : List Int} {d r mn k k' : Int} {row : List Int} (h : LevIn u v t pre.length d r row mn) (hl : row.length = u.length)
    (hk : k = 0 + (pre.length : Int)) (hi : pre.length < ((u.length : Int) - 0).toNat) (hk' : k' = 0 + (t : Int)) (ht : t < ((v.length : Int) - 0).toNat) {R : Int}
    (hR : R = if d + scost (Txt.item v k') (Txt.item u k) < (if row.getD k.toNat 0 < r then row.getD k.toNat 0 else r) + 2 then d + scost (Txt.item v k') (Txt.item u k) else (if row.getD k.toNat 0 < r then row.getD k.toNat 0 else r) + 2) :
    R = (Dp u v (t + 1) (pre.length + 1) : Int) ∧ row.getD k.toNat 0 = (Dp u v t (pre.length + 1) : Int) ∧ row.set k.toNat R = rowAt u v t (pre.length + 1) := by
  have e1 : k.toNat = pre.length := by rw [hk, Int.zero_add, Int.toNat_natCast]
  have hi' : pre.length < u.length := by rwa [Int.sub_zero, Int.toNat_natCast] at hi
  have ht' : t < v.length := by rwa [Int.sub_zero, Int.toNat_natCast] at ht
  rw [lev_cost hk hi hk' ht] at hR
  have hg : row.getD k.toNat 0 = (Dp u v t (pre.length + 1) : Int) := by rw [e1, h.row, rowAt_get hi']
  rw [hg, h.dist] at hR
  have st := dp_step (u := u) (v := v) (t := t) (i := pre.length) ht' hi'
  have hc := cc_le ((cl v).getD t 0) ((cl u).getD pre.length 0)
  have hR' : R = (Dp u v (t + 1) (pre.length + 1) : Int) := by
    rcases h.res with ⟨h0, hr⟩ | ⟨h1, hr⟩
    · have z1 := dp_zero u v t (Nat.le_of_lt ht')
      have z2 := dp_zero u v (t + 1) ht'
      rw [h0] at hR st hc ⊢
      rw [hR]
      exact next_first st z1 z2 hc hr
    · rw [hR, hr]
      exact next_else st
  refine ⟨hR', hg, ?_⟩
  rw [hR', e1, h.row, rowAt_set hi']
theorem levIn_step1 {u v : Str} {t : Nat} {pre : List Int} {d r mn k k' : Int} {row : List Int} (h : LevIn u v t pre.length d r row mn) (hl : row.length = u.length)
    (hk : k = 0 + (pre.length : Int)) (hi : pre.length < ((u.length : Int) - 0).toNat) (hk' : k' = 0 + (t : Int)) (ht : t < ((v.length : Int) - 0).toNat)
    (c : (if d + scost (Txt.item v k') (Txt.item u k) < (if row.getD k.toNat 0 < r then row.getD k.toNat 0 else r) + 2 then d + scost (Txt.item v k') (Txt.item u k) else (if row.getD k.toNat 0 < r then row.getD k.toNat 0 else r) + 2) < mn) :
    LevIn u v t (pre ++ [k]).length (row.getD k.toNat 0)
      (if d + scost (Txt.item v k') (Txt.item u k) < (if row.getD k.toNat 0 < r then row.getD k.toNat 0 else r) + 2 then d + scost (Txt.item v k') (Txt.item u k) else (if row.getD k.toNat 0 < r then row.getD k.toNat 0 else r) + 2)
      (row.set k.toNat (if d + scost (Txt.item v k') (Txt.item u k) < (if row.getD k.toNat 0 < r then row.getD k.toNat 0 else r) + 2 then d + scost (Txt.item v k') (Txt.item u k) else (if row.getD k.toNat 0 < r then row.getD k.toNat 0 else r) + 2))
      (if d + scost (Txt.item v k') (Txt.item u k) < (if row.getD k.toNat 0 < r then row.getD k.toNat 0 else r) + 2 then d + scost (Txt.item v k') (Txt.item u k) else (if row.getD k.toNat 0 < r then row.getD k.toNat 0 else r) + 2)
    ∧ (row.set k.toNat (if d + scost (Txt.item v k') (Txt.item u k) < (if row.getD k.toNat 0 < r then row.getD k.toNat 0 else r) + 2 then d + scost (Txt.item v k') (Txt.item u k) else (if row.getD k.toNat 0 < r then row.getD k.toNat 0 else r) + 2)).length = u.length := by
  obtain ⟨e1, e2, e3⟩ := levIn_next h hl hk hi hk' ht rfl
  have el : (pre ++ [k]).length = pre.length + 1 := by simp
  have em := h.mn
  refine ⟨⟨by rw [el]; exact e3, by rw [el]; exact e2, .inr ⟨by rw [el]; omega, by rw [el]; exact e1⟩, ?_⟩, by rw [List.length_set]; exact hl⟩
  rw [el, minAt]
  rw [e1] at c ⊢
  rw [em] at c
  rw [if_pos c]
theorem levIn_step2 {u v : Str} {t : Nat} {pre : List Int} {d r mn k k' : Int} {row : List Int} (h : LevIn u v t pre.length d r row mn) (hl : row.length = u.length)
    (hk : k = 0 + (pre.length : Int)) (hi : pre.length < ((u.length : Int) - 0).toNat) (hk' : k' = 0 + (t : Int)) (ht : t < ((v.length : Int) - 0).toNat)
    (c : ¬ (if d + scost (Txt.item v k') (Txt.item u k) < (if row.getD k.toNat 0 < r then row.getD k.toNat 0 else r) + 2 then d + scost (Txt.item v k') (Txt.item u k) else (if row.getD k.toNat 0 < r then row.getD k.toNat 0 else r) + 2) < mn) :
    LevIn u v t (pre ++ [k]).length (row.getD k.toNat 0)
      (if d + scost (Txt.item v k') (Txt.item u k) < (if row.getD k.toNat 0 < r then row.getD k.toNat 0 else r) + 2 then d + scost (Txt.item v k') (Txt.item u k) else (if row.getD k.toNat 0 < r then row.getD k.toNat 0 else r) + 2)
      (row.set k.toNat (if d + scost (Txt.item v k') (Txt.item u k) < (if row.getD k.toNat 0 < r then row.getD k.toNat 0 else r) + 2 then d + scost (Txt.item v k') (Txt.item u k) else (if row.getD k.toNat 0 < r then row.getD k.toNat 0 else r) + 2))
      mn
    ∧ (row.set k.toNat (if d + scost (Txt.item v k') (Txt.item u k) < (if row.getD k.toNat 0 < r then row.getD k.toNat 0 else r) + 2 then d + scost (Txt.item v k') (Txt.item u k) else (if row.getD k.toNat 0 < r then row.getD k.toNat 0 else r) + 2)).length = u.length := by
  obtain ⟨e1, e2, e3⟩ := levIn_next h hl hk hi hk' ht rfl
  have el : (pre ++ [k]).length = pre.length + 1 := by simp
  have em := h.mn
  refine ⟨⟨by rw [el]; exact e3, by rw [el]; exact e2, .inr ⟨by rw [el]; omega, by rw [el]; exact e1⟩, ?_⟩, by rw [List.length_set]; exact hl⟩
  rw [el, minAt]
  rw [e1, em] at c
  rw [if_neg c]
  exact em
theorem levOut_step {u v : Str} {pre : List Int} {n : Nat} {d r mn k : Int} {row : List Int} (h : LevIn u v pre.length n d r row mn) (hl : row.length = u.length) (hn : n = u.length) (hu : 1 ≤ u.length) :
    LevOut u v (pre ++ [k]).length row r ∧ row.length = u.length := by
  have el : (pre ++ [k]).length = pre.length + 1 := by simp
  refine ⟨⟨by rw [el, h.row, hn, rowAt_end], .inr ?_⟩, hl⟩
  rcases h.res with ⟨h0, _⟩ | ⟨_, hr⟩
  · omega
  · rw [el, hr, hn]
theorem lev_out {u v : Str} {t n : Nat} {d r mn mc : Int} {row : List Int} (h : LevIn u v t n d r row mn) (hn : n = u.length) (ht : t < ((v.length : Int) - 0).toNat) (hu : 1 ≤ u.length) (hm : mc < mn) (hd : (DD u v : Int) - 1 ≤ mc) :
    mc + 1 = DD u v := by
  have em := h.mn
  rw [hn] at em
  exact lev_early (t := t) (by omega) hu (em ▸ hm) hd
theorem lev_last {u v : Str} {n : Nat} {r : Int} {row : List Int} (h : LevOut u v n row r) (hn : n = v.length) (hv : 1 ≤ v.length) : r = DD u v := by
  rcases h.res with h0 | h0
  · omega
  · rw [h0, hn, dp_end]
theorem DD_same (x : Str) : ((DD x x : Nat) : Int) = 0 := by
  have e := d_pre cc_self [] [] (cl x)
  rw [List.append_nil] at e
  unfold DD
  rw [e, d_nil]
  rfl
end Mine
end
section
open PySem PySem.W PyProof.Rows PySem.Calls
set_option maxRecDepth 100000
namespace Mine
noncomputable abbrev LevW (a b : Str) (c : Str × Nat × Str × Nat) : Prop := DD c.1 c.2.2.1 = DD a b ∧ c.1.length ≤ 8 ∧ c.2.2.1.length ≤ 8
noncomputable abbrev LevO (a b : Str) (c : Str × Nat × Str × Nat) : Prop := DD c.1 c.2.2.1 = DD a b ∧ 1 ≤ c.1.length ∧ c.1.length ≤ c.2.2.1.length ∧ c.2.2.1.length ≤ 8
local macro_rules | `(tactic| omega) => `(tactic| k_extra "om")
set_option maxHeartbeats 4000000 in
theorem lev_c (w mean mg mb) (a b : Str) (ta tb tc : Tok) (mc : Int) : Con w mean mg mb 38 [.str a ta, .str b tb, .int mc tc] (a.length ≤ 8 ∧ b.length ≤ 8 ∧ (DD a b : Int) - 1 ≤ mc ∧ mc ≤ 1000) 3 24 (fun t => .int (DD a b) t) := by
  unfold Con KK Mine.prog TopM; k_with_none; w_top off; k_fill
  intro dp un gd cn cs a' ccd cl outer A₀ base h₀ L m news s Q E B F X N T hk hpre hd hu hret
  obtain ⟨hla, hlb, hm0, hm1⟩ := hpre
  skip
  k_with "om" => with_reducible first
    | decide
    | exact oU1 (by assumption)
    | exact oU (by assumption) (by decide)
    | exact oA8 (by assumption) (by assumption) (by assumption) (by decide)
    | exact oA8 (by assumption) (by assumption) (Nat.le_trans (by assumption) (by assumption)) (by decide)
    | exact oAN (by assumption) (by assumption)
    | exact oANl (by assumption) (by assumption) (by assumption)
    | exact oAneg (by assumption)
    | exact oAm (by assumption) (by decide)
    | exact bA0 (by assumption)
    | exact bAm (by assumption) (by decide)
    | exact oTo
    | exact oNlt (by assumption) (by decide)
    | exact oGe8 (by assumption) (by decide)
    | exact oGe8 (Nat.le_trans (by assumption) (by assumption)) (by decide)
    | exact oGe0 (by assumption) (by decide)
    | exact oLt8 (by assumption) (by decide)
    | exact oLt8 (Nat.le_trans (by assumption) (by assumption)) (by decide)
    | exact Nat.le_trans (show _ ≤ 8 by assumption) (by decide)
    | exact Nat.le_trans (by assumption) (by assumption)
    | exact Nat.le_trans (by assumption) (Nat.le_trans (by assumption) (by decide))
    | exact Nat.le_trans (by assumption) (by decide)
    | exact Nat.le_trans (And.right (by assumption)) (by decide)
    | exact o0neg (by assumption)
    | exact o1lt (by assumption)
    | exact o1lt (Int.le_of_eq (by assumption))
    | exact o1c (by assumption) (by decide)
    | exact o1c (Int.le_of_eq (by assumption)) (by decide)
    | exact o54 (by assumption) (by decide)
    | exact o44 (by assumption) (by assumption) (by decide)
    | exact o16 (by assumption) (by assumption) (by decide)
    | exact f0m (by assumption) (by decide)
    | exact oSub (by assumption) (by decide)
    | exact oSub8 (by assumption) (by decide)
    | exact oNc (by decide)
    | exact oPos (by assumption)
    | exact Int.ofNat_le.mp (Int.not_lt.mp (by assumption))
    | exact Nat.le_of_lt (Int.ofNat_lt.mp (by assumption))
    | exact Or.inl (Int.ofNat.inj (by assumption))
    | exact Or.inr (Int.ofNat.inj (by assumption))
    | exact oS56 (by assumption) (by assumption) (by assumption)
    | exact oS60 (by assumption) (by assumption) (by assumption)
    | exact oS18 (by assumption) (by assumption)
    | exact oNe0 (by assumption) (by assumption)
    | exact oS53 (by assumption) (by assumption) (by assumption)
  k_with "CutPost" =>
    dsimp only [CutPost]
  k_with "subscriptTail Name Slice str ref" =>
    ((with_reducible show wpAny _ _ (subscriptTail _ (Expr.Slice none (some (Expr.BoolOp _ _ _)) none _) _ _) _ _ (Shared.mk (Heap.push _ (Obj.mk _ _ (Data.fields (List.toArray [Value.none, Value.none, Value.none])) _)) _ _ _ _)); (with_reducible rename Fr _ _ _ _ => F'); (with_reducible rename News _ _ _ _ => N'); k_dflt (refine slice_strN_nn_len (s := ⟨_, _, _, _, _⟩) F' N' ?_; intro _ _ _ _ _ _))
  -- the strip from ahead
  k_with "execs cons" =>
    ((with_reducible show wpAny _ _ (execs (Stmt.While _ _ _ (Pos.mk 78 _ _ _) :: _) _) _ _ _); (rename Fr _ _ _ _ => lF'); (rename News _ _ _ _ => lN'); (
                    (refine cut_seq (σ := Int × Nat) lF' lN' (fun c => [(Str.ofString "a", .str a ta), (Str.ofString "b", .str b tb), (Str.ofString "max_cost", .int mc tc), (Str.ofString "pre", .int c.1 c.2)]) (fun c => PreW a b c.1) ?_ ?_);
                    (rotate_left; (clear lF' lN'; rintro ⟨k', t'⟩ h' tk' m' inv' F' N'; (try dsimp only [kstB] at F'); (try dsimp only at inv'); have inv2' := pre_done inv'; have lena := cut_len a k'; have lenb := cut_len b k'); rotate_right); (all_goals try dsimp only)))
  k_with "exec While" =>
    ((with_reducible show wpAny _ _ (exec (Stmt.While _ _ _ (Pos.mk 78 _ _ _)) _) _ _ _); k_while (fun _ k => PreInv a b k ∧ 0 ≤ k ∧ k ≤ (a.length : Int) ∧ k ≤ (b.length : Int)) (fun _ k => a.length - k.toNat) "pre")
  k_with "measure" => first | exact post_meas (by assumption) | exact pre_meas (by assumption) (by assumption) (by assumption) (by assumption) | omega
  k_with "state" => first | exact pre_start | exact pre_step (by assumption) (by assumption) (by assumption) (by assumption) (by assumption) (by assumption) (by assumption) (by assumption) (by assumption)
  k_with "CutJ" =>
    ((refine CutJ.intro (c := (_, _)) (by assumption) (by assumption) (by exact fun _ h9 => h9) (by kst_all) ?_); exact ⟨by assumption, by assumption, by assumption, by assumption⟩)
  -- the two cuts, as letters
  k_with "execs cons" =>
    ((with_reducible show wpAny _ _ (execs (Stmt.Assign _ _ (Pos.mk 80 _ _ _) :: Stmt.Assign _ _ (Pos.mk 81 _ _ _) :: _ :: _) _) _ _ _); (rename Fr _ _ _ _ => lF'); (rename News _ _ _ _ => lN'); (
                    (refine cut_two (σ := Str × Nat × Str × Nat) lF' lN' (fun c => [(Str.ofString "a", .str c.1 c.2.1), (Str.ofString "b", .str c.2.2.1 c.2.2.2), (Str.ofString "max_cost", .int mc tc)]) (LevW a b) ?_ ?_);
                    (rotate_left; (clear lF' lN'; rintro ⟨x, tx, y, ty⟩ h' tk' m' inv3 F' N'; (try dsimp only [kstB] at F'); obtain ⟨hxy, lx, ly⟩ := inv3; (try dsimp only at hxy lx ly)); rotate_right); (all_goals try dsimp only)))
  k_with "CutJ" =>
    ((refine CutJ.intro (c := (_, _, _, _)) (by assumption) (by assumption) (by exact fun _ h9 => h9) (by kst_all) ?_); exact ⟨by assumption, by dsimp only; omega, by dsimp only; omega⟩)
  -- the strip from behind
  k_with "execs cons" =>
    ((with_reducible show wpAny _ _ (execs (Stmt.While _ _ _ (Pos.mk 83 _ _ _) :: _) _) _ _ _); (rename Fr _ _ _ _ => lF'); (rename News _ _ _ _ => lN'); (
                    (refine cut_seq (σ := Int × Nat) lF' lN' (fun c => [(Str.ofString "a", .str x tx), (Str.ofString "b", .str y ty), (Str.ofString "max_cost", .int mc tc), (Str.ofString "post", .int c.1 c.2)]) (fun c => PostW x y c.1) ?_ ?_);
                    (rotate_left; (clear lF' lN'; rintro ⟨k', t'⟩ h' tk' m' inv' F' N'; (try dsimp only [kstB] at F'); (try dsimp only at inv'); have inv0' := inv'.2.1; have inv2' := fun h9 => post_done inv' h9); rotate_right); (all_goals try dsimp only)))
  k_with "exec While" =>
    ((with_reducible show wpAny _ _ (exec (Stmt.While _ _ _ (Pos.mk 83 _ _ _)) _) _ _ _); k_while (fun _ k => PostInv x y k ∧ k ≤ 0 ∧ -(x.length : Int) ≤ k ∧ -(y.length : Int) ≤ k) (fun _ k => ((x.length : Int) + k).toNat) "post"; skip)
  k_with "subscriptTail Name BinOp str int" =>
    ((fail_if_success (rename Mk1 => m9)); (have mk9 : Mk1 := ⟨⟩);
                     first
                     | ((have r1 := back_room1 (x := x) (by assumption) (by assumption) (by assumption) (by assumption)); (have r2 := back_room1 (x := y) (by assumption) (by assumption) (by assumption) (by assumption)); (obtain ⟨r3, r4⟩ := r1); (obtain ⟨r5, r6⟩ := r2))
                     | ((have r1 := back_room0 (x := x) (by assumption) (by assumption) (by assumption)); (have r2 := back_room0 (x := y) (by assumption) (by assumption) (by assumption)); (obtain ⟨r3, r4⟩ := r1); (obtain ⟨r5, r6⟩ := r2)))
  k_with "state" => first | exact post_start | exact post_next (by assumption) (by assumption) (by assumption) (by assumption) (by assumption)
  k_with "CutJ" =>
    ((refine CutJ.intro (c := (_, _)) (by assumption) (by assumption) (by exact fun _ h9 => h9) (by kst_all) ?_); exact ⟨by assumption, by assumption, by assumption, by assumption⟩)
  k_with "execs cons" =>
    ((with_reducible show wpAny _ _ (execs (Stmt.Assign _ _ (Pos.mk 85 _ _ _) :: Stmt.Assign _ _ (Pos.mk 86 _ _ _) :: _ :: _) _) _ _ _); (rename Fr _ _ _ _ => lF'); (rename News _ _ _ _ => lN'); (
                    (refine cut_two (σ := Str × Nat × Str × Nat) lF' lN' (fun c => [(Str.ofString "a", .str c.1 c.2.1), (Str.ofString "b", .str c.2.2.1 c.2.2.2), (Str.ofString "max_cost", .int mc tc)]) (LevW a b) ?_ ?_);
                    (rotate_left; (clear lF' lN'; rintro ⟨x2, tx2, y2, ty2⟩ h' tk' m' inv3 F' N'; (try dsimp only [kstB] at F'); obtain ⟨hxy2, lx2, ly2⟩ := inv3; (try dsimp only at hxy2 lx2 ly2)); rotate_right); (all_goals try dsimp only)))
  k_with "CutJ" =>
    ((with_reducible show CutJ _ _ _ _ _ (LevW a b) _); (refine CutJ.intro (c := (_, _, _, _)) (by assumption) (by assumption) (by exact fun _ h9 => h9) (by kst_all) ?_); first | (exfalso; omega) | exact ⟨(inv2' (by omega)).trans hxy, by dsimp only; omega, by dsimp only; omega⟩ | exact ⟨post_done0.trans hxy, by dsimp only; omega, by dsimp only; omega⟩)
  -- the lesser one first
  k_with "execs cons" =>
    ((with_reducible show wpAny _ _ (execs (Stmt.If _ _ _ (Pos.mk 91 _ _ _) :: _) _) _ _ _); (rename Fr _ _ _ _ => lF'); (rename News _ _ _ _ => lN'); (
                    (refine cut_seq (σ := Str × Nat × Str × Nat) lF' lN' (fun c => [(Str.ofString "a", .str c.1 c.2.1), (Str.ofString "b", .str c.2.2.1 c.2.2.2), (Str.ofString "max_cost", .int mc tc)]) (LevO a b) ?_ ?_);
                    (rotate_left; (clear lF' lN'; rintro ⟨u, tu, v, tv⟩ h' tk' m' inv3 F' N'; (try dsimp only [kstB] at F'); obtain ⟨huv, lu, luv, lv⟩ := inv3; (try dsimp only at huv lu luv lv)); rotate_right); (all_goals try dsimp only)))
  k_with "CutJ" =>
    ((with_reducible show CutJ _ _ _ _ _ (LevO a b) _); (refine CutJ.intro (c := (_, _, _, _)) (by assumption) (by assumption) (by first | exact fun _ h9 => h9 | exact fun _ h9 => List.mem_cons_of_mem _ h9) (by kst_all) ?_); first | exact ⟨hxy2, by dsimp only; omega, by dsimp only; omega, by dsimp only; omega⟩ | exact ⟨(DD_symm _ _).trans hxy2, by dsimp only; omega, by dsimp only; omega, by dsimp only; omega⟩)
  k_with "call type:list" =>
    ((rename Fr _ _ _ _ => lF'); (rename News _ _ _ _ => lN'); (rename IsRange _ _ _ _ _ _ _ _ => rgX); (refine list_range2 (n := u.length) (by rfl) lF' lN' rgX (by omega) ?_; (clear lF' lN' rgX; intro D' vs' c' h' tk' F' N' l1 hI'; (try dsimp only))))
  k_with "pyIter ref" => (k_of "bindex" => (k_state (fun pre row result => LevOut u v pre.length row result ∧ row.length = u.length) "row" "result"))
  k_with "pyIter ref" => (k_of "index" => (skip; k_state (fun pre dist res row mn => LevIn u v kPre.length pre.length dist res row mn ∧ row.length = u.length) "distance" "result" "row" "minimum"))
  k_with "state" => first | (with_reducible exact levOut_start _ _ _) | (with_reducible exact levIn_start (by assumption) (by assumption) (by assumption) (by assumption)) | (with_reducible exact levIn_step1 (by assumption) (by assumption) (by assumption) (by assumption) (by assumption) (by assumption) (by assumption)) | (with_reducible exact levIn_step2 (by assumption) (by assumption) (by assumption) (by assumption) (by assumption) (by assumption) (by assumption)) | (with_reducible exact levOut_step (by assumption) (by assumption) (by simp only [rangeKs_length]; omega) (by assumption)) | (skip; fail "stop")
  k_with "InvEndN" =>
    ((rename News _ _ _ _ => nE'); (try simp only [List.push_toArray] at nE'); first
                       | (refine kst_end ⟨_, _, _, _, _, _, _, _, _⟩ (by assumption) nE' (by first | exact fun _ h9 => h9 | exact sub_l1 | exact sub_l2 | (refine sub_cons ?_; first | exact fun _ h9 => h9 | exact sub_l1 | exact sub_l2)) (by intro p hp; kst_mem) (by rfl) (by kst_facts) (by kst_all) (by kst_same) (by kst_p))
                       | (refine kst_end ⟨_, _, _, _, _⟩ (by assumption) nE' (by first | exact fun _ h9 => h9 | exact sub_l1 | exact sub_l2 | (refine sub_cons ?_; first | exact fun _ h9 => h9 | exact sub_l1 | exact sub_l2)) (by intro p hp; kst_mem) (by rfl) (by kst_facts) (by kst_all) (by kst_same) (by kst_p)))
  k_with "call ref" => (refine subst_c w mean mg mb _ _ _ _ _ _ _ _ _ _ _ _ _ _ _ _ _ _ _ _ _ _ (by k_asm) (by k_asm) (by k_asm) (by k_asm) (by k_asm) (by first | exact rfl | assumption) (by exact ⟨by omega, by omega⟩) (by ktr_room) (by ktr_units) ?_; intro t9 h9 tk9 F9 N9; (try dsimp only); (try k_fold))
  refine wpAny_call ?_
  k_dflt cell_enter
  k_steps
  all_goals (refine cb_retI hret ?e1 ?e2 ?e3; (case e2 => k_asm); (case e3 => first | k_asm | (refine' cb_drop ?cbN ?cbS; (case cbN => assumption); (case cbS => first | exact fun _ h9 => List.mem_cons_of_mem _ h9 | exact fun _ h9 => List.mem_cons_of_mem _ (List.mem_append_left _ h9)))); (case e1 => first
    | (rename ((a == b) = true) => h9; rw [eq_of_beq h9]; exact (DD_same _).symm)
    | (rw [← hxy2]; exact (DD_empty (by omega)).symm)
    | (exact low_done (by assumption) huv (by assumption) (DD_low u v))
    | (exact (lev_out (by assumption) (by simp only [rangeKs_length]; omega) (by assumption) (by assumption) (by assumption) (le_by huv (by assumption))).trans (congrArg _ huv))
    | (exact (lev_last (by assumption) (by simp only [rangeKs_length]; omega) (by omega)).trans (congrArg _ huv))))
end Mine
end
section
open PySem PySem.W PyProof.Rows PySem.Calls
set_option maxRecDepth 100000
namespace Mine
theorem slot_rv_next : Slot "reversed" "__next__" "reversed.__next__" :=
  .of (owner := "reversed") (n := "__next__") (by rw [typeLookup_type, builtinLookup_eq_fast]; kernel_rfl) (by decide +kernel) (by decide +kernel) (by decide +kernel)
    (by first | exact .inl (by decide +kernel) | exact .inr (by decide +kernel)) (by rw [isSubtype_type]; kernel_rfl)
theorem slot_rv_iter : Slot "reversed" "__iter__" "reversed.__iter__" :=
  .of (owner := "reversed") (n := "__iter__") (by rw [typeLookup_type, builtinLookup_eq_fast]; kernel_rfl) (by decide +kernel) (by decide +kernel) (by decide +kernel)
    (by first | exact .inl (by decide +kernel) | exact .inr (by decide +kernel)) (by rw [isSubtype_type]; kernel_rfl)
theorem slot_rv_init : Slot "reversed" "__init__" "object.__init__" :=
  .of (owner := "object") (n := "__init__") (by rw [typeLookup_type, builtinLookup_eq_fast]; kernel_rfl) (by decide +kernel) (by decide +kernel) (by decide +kernel)
    (by first | exact .inl (by decide +kernel) | exact .inr (by decide +kernel)) (by rw [isSubtype_type]; kernel_rfl)
theorem entry_rv_next : entryFor table "reversed.__next__" = some Builtin.«reversed.__next__» := entryFor_of_tree (by kernel_rfl)
theorem entry_rv_iter : entryFor table "reversed.__iter__" = some Builtin.«dict_keyiterator.__iter__» :=
  entryFor_alias (id' := "dict_keyiterator.__iter__") (by kernel_rfl) (by first | rfl | decide +kernel | (unfold String.splitOn; simp +decide [String.splitOnAux])) (by decide +kernel) (by kernel_rfl)
theorem called_rv : TypeCalled "reversed" "reversed.__new__" "object.__init__" :=
  ⟨by decide +kernel, by decide +kernel, ⟨_, _, F.mro_reversed⟩, F.made_reversed, by decide +kernel, F.sub_reversed_self, slot_rv_init⟩
theorem str_no_reversed : typeLookup (.type "str") "__reversed__" = pure none := by rw [typeLookup_type, builtinLookup_eq_fast]; kernel_rfl
theorem str_getitem : typeLookup (.type "str") "__getitem__" = pure (some (.builtin "str.__getitem__")) := by rw [typeLookup_type, builtinLookup_eq_fast]; kernel_rfl
theorem owner_rv : Manifest.owners.lookup (String.ofList ['d', 'e', 's', 'r', 'e', 'v', 'e', 'r'].reverse) = some Manifest.sig_reversed := by kernel_rfl
theorem args_rv_next (a : Value) : argsOk "reversed.__next__" ⟨[a], []⟩ := by
  unfold argsOk; rw [signature?_of (id := "reversed.__next__") (n := ['_', '_', 't', 'x', 'e', 'n', '_', '_']) (o := ['d', 'e', 's', 'r', 'e', 'v', 'e', 'r']) (by kernel_rfl) owner_rv]; kernel_rfl
theorem args_rv_iter (a : Value) : argsOk "reversed.__iter__" ⟨[a], []⟩ := by
  unfold argsOk; rw [signature?_of (id := "reversed.__iter__") (n := ['_', '_', 'r', 'e', 't', 'i', '_', '_']) (o := ['d', 'e', 's', 'r', 'e', 'v', 'e', 'r']) (by kernel_rfl) owner_rv]; kernel_rfl
noncomputable abbrev rvObj (x : Str) (t : Tok) (i : Int) : Obj := { cls := .type "reversed", dict := none, data := .fields #[.str x t, rawInt i], slots := #[] }
noncomputable abbrev IsRv (h : Heap) (a : Addr) (x : Str) (t : Tok) (i : Int) : Prop := h.get? a = some (rvObj x t i)
section
variable {prog : Program} {w : World} {A : Around} {E : Value → Shared → Prop} {s : Shared} {x : Str} {t : Tok} {a : Addr}
theorem rv_new (hx : ¬ (x.length : Int) ≥ 2 ^ 63) : Meets (Builtin.«reversed.__new__» ⟨[.type "reversed", .str x t], []⟩)
    (fun A R s => R (.ok (.ret (.ref s.heap.objs.size))) { s with heap := s.heap.push (rvObj x t ((x.length : Int) - 1)), toks := s.toks + 1 + 1 }) :=
  .of_wp fun prog w A R s h => by
    unfold Builtin.«reversed.__new__»
    refine wpAny_bind (wpAny_of_eq (newClass_reversed _) ?_)
    try dsimp only
    refine wpAny_bind (wpAny_of_eq (a := ()) (by first | rfl | kernel_rfl) ?_)
    refine wpAny_bind (wpAny_of_eq (a := ()) (by first | rfl | kernel_rfl) ?_)
    try dsimp only
    refine wpAny_bind (wpAny_specialOf (typeIs_str _ _ _) str_no_reversed ?_)
    try dsimp only
    refine wpAny_bind ?_
    refine wpAny_bind (m := isInstance (.str x t) (.type "dict")) (wpAny_isInstance (typeIs_str _ _ _) F.sub_str_dict ?_)
    try dsimp only
    refine wpAny_bind (wpAny_specialOf (typeIs_str _ _ _) str_getitem ?_)
    try dsimp only
    refine wpAny_pure ?_
    first | rw [if_neg (by decide)] | skip
    try dsimp only
    refine wpAny_bind (len_str hx ?_)
    try dsimp only
    refine wpAny_bind (wpAny_of_eq (a := some ((x.length : Nat) : Int)) rfl ?_)
    try dsimp only
    refine wpAny_bind (m := newObj (.type "reversed") (.fields #[.str x t, rawInt ((x.length : Int) - 1)])) ?_
    refine wpAny_newObj_type ?_ (by size_fits)
    exact wpAny_pure ⟨_, rfl, h⟩
theorem rv_next_item {i : Nat} {Q : Option Value → Shared → Prop} (hit : IsRv s.heap a x t (i : Int)) (hi : i < x.length) (hz : x.length ≤ 1000)
    (hQ : ∀ h' t' tk, IsRv h' a x t ((i : Int) - 1) → Heap.SameBut a s.heap h' → Q (some (.str (Txt.item x (i : Int)) t')) { s with heap := h', toks := tk }) : wpAny (model prog w) A (pyNext (.ref a)) Q E s := by
  have hT : s.TypeIs (.ref a) "reversed" := ⟨_, hit, rfl⟩
  unfold pyNext
  refine wpAny_bind (wpAny_attempt (wpAny_callSpecial?_slot (name := Str.ofString "__next__") hT slot_rv_next
    (wpAny_call_entry slot_rv_next hT entry_rv_next ?_ (args_rv_next _))))
  unfold Builtin.«reversed.__next__»
  refine wpAny_bind (wpAny_of_eq (a := (Value.ref a, [])) rfl ?_)
  try dsimp only
  refine wpAny_bind (wpAny_field hit rfl (x := .str x t) rfl ?_)
  refine wpAny_bind (wpAny_field hit rfl (x := rawInt (i : Int)) rfl ?_)
  show wpAny _ _ (if (i : Int) < 0 then _ else _) _ _ s
  rw [if_neg (by omega)]
  refine wpAny_bind (wpAny_specialOf (typeIs_str _ _ _) str_getitem ?_)
  try dsimp only
  rw [if_neg (show ¬ ((some (Value.builtin "str.__getitem__")).isNone = true) from Bool.false_ne_true)]
  refine wpAny_bind (wpAny_mkInt ?_)
  have hc : (Txt.charAt x (i : Int)).isSome = true := by
    have h2 : ¬ ((i : Int) < 0) := by omega
    have h3 : i < x.cps.size := hi
    unfold Txt.charAt seqIndex?
    simp only [h2, if_false]
    have h4 : ((0 : Int) ≤ (i : Int)) := by omega
    have h5 : (i : Int) < (x.length : Int) := by omega
    simp [h5, h3]
  have hf : fitsSsize (i : Int) = true := by
    unfold fitsSsize; rw [Bool.not_eq_true']
    first | (simp; omega) | decide
  refine wpAny_bind (wpAny_attempt (SB.getItem hf hc ?_))
  try dsimp only
  refine wpAny_bind (wpAny_field hit rfl (x := rawInt (i : Int)) rfl ?_)
  try dsimp only
  refine wpAny_bind (wpAny_setField_rec hit (by simp) fun h₁ hz₁ hs₁ => ?_)
  exact wpAny_pure ⟨_, rfl, wpAny_pure (hQ _ _ _ hz₁ hs₁)⟩
theorem rv_next_end {Q : Option Value → Shared → Prop} (hh : A.handled = none) (hit : IsRv s.heap a x t (-1))
    (hQ : ∀ h', Heap.ExtBut a s.heap h' → Q none { s with heap := h' }) : wpAny (model prog w) A (pyNext (.ref a)) Q E s := by
  have hT : s.TypeIs (.ref a) "reversed" := ⟨_, hit, rfl⟩
  unfold pyNext
  refine wpAny_bind (wpAny_attempt (wpAny_callSpecial?_slot (name := Str.ofString "__next__") hT slot_rv_next
    (wpAny_call_entry slot_rv_next hT entry_rv_next ?_ (args_rv_next _))))
  unfold Builtin.«reversed.__next__»
  refine wpAny_bind (wpAny_of_eq (a := (Value.ref a, [])) rfl ?_)
  try dsimp only
  refine wpAny_bind (wpAny_field hit rfl (x := .str x t) rfl ?_)
  refine wpAny_bind (wpAny_field hit rfl (x := rawInt (-1)) rfl ?_)
  show wpAny _ _ (if (-1 : Int) < 0 then _ else _) _ _ s
  rw [if_pos (by decide)]
  refine wpAny_bind (wpAny_rule ?_)
  refine wpAny_bind ?_
  refine wpAny_bind (m := setField (.ref a) 1 (rawInt (-1))) (wpAny_setField_rec hit (by simp) fun h₁ hz₁ hs₁ => ?_)
  refine wpAny_setField_rec hz₁ (by simp) fun h₂ hz₂ hs₂ => ?_
  try dsimp only
  first
  | show wpAny _ _ (newExc (.type "StopIteration") [] >>= _) _ _ _
  | (refine wpAny_bind ?_; show wpAny _ _ (newExc (.type "StopIteration") [] >>= _) _ _ _)
  refine wpAny_bind ?_
  simp only [newExc, newTuple]
  refine wpAny_bind (wpAny_newObj_type ?_ (by size_fits))
  refine wpAny_bind (m := firstArgMember _ _) (wpAny_of_eq (a := Value.none) (by first | rfl | (simp only [firstArgMember]; rfl)) ?_)
  refine wpAny_newObj_type ?_ (by size_fits)
  simp only [raiseNew]
  refine wpAny_bind (wpAny_handled ?_)
  first | rw [show A.in1.handled = none from hh] | rw [hh]
  refine wpAny_bind (wpAny_pure (wpAny_throw ?_))
  refine wpAny_bind (wpAny_isInstance (T := "StopIteration") (b := true) ⟨_, Heap.get?_push_size _ rfl, rfl⟩ isSubtype_stop ?_)
  refine wpAny_pure (hQ _ ?_)
  exact (((hs₁.extBut.trans hs₂.extBut).push _).push _)
theorem rv_iter {i : Int} {Q : Value → Shared → Prop} (hit : IsRv s.heap a x t i) (h : Q (.ref a) s) : wpAny (model prog w) A (pyIter (.ref a)) Q E s := by
  have hT : s.TypeIs (.ref a) "reversed" := ⟨_, hit, rfl⟩
  refine wpAny_pyIter_slot hT slot_rv_iter (wpAny_call_entry slot_rv_iter hT entry_rv_iter ?_ (args_rv_iter _))
  show wpAny _ _ (ret (.ref a)) _ _ s
  exact wpAny_pure ⟨_, rfl, "reversed", _, hT, slot_rv_next.lookup, h⟩
theorem call_rv {Q : Value → Shared → Prop} (hx : ¬ (x.length : Int) ≥ 2 ^ 63) (h : Q (.ref s.heap.objs.size) { s with heap := s.heap.push (rvObj x t ((x.length : Int) - 1)), toks := s.toks + 1 + 1 }) :
    wpAny (model prog w) A (call (.type "reversed") [.str x t]) Q E s :=
  callType_new called_rv (by decide) (F.typeCall_reversed_1 _) (F.newCall_reversed_1 _) (fun obj => F.args_object_init_2 obj _) F.entry_reversed_new (rv_new hx) ⟨⟨_, Heap.get?_push_size _ rfl, rfl⟩, h⟩
end
theorem Walks.rv {prog : Program} {w : World} {A : Around} (hh : A.handled = none) (I : Addr) (x : Str) (t : Tok) (hz : x.length ≤ 1000) :
    Walks prog w A I [I] [I] x.length (fun i v => ∃ t', v = .str (Txt.item x ((x.length : Int) - 1 - (i : Int))) t') (fun i h => i ≤ x.length ∧ IsRv h I x t ((x.length : Int) - 1 - (i : Int))) where
  sub := fun b hb => hb
  frame := fun _ _ _ st hk => ⟨st.1, hk I (by simp) _ st.2⟩
  item := fun i s Q E hi st hQ => by
    have e : (x.length : Int) - 1 - (i : Int) = ((x.length - 1 - i : Nat) : Int) := by omega
    have hit := st.2
    rw [e] at hit
    refine rv_next_item hit (by omega) hz fun h' t' tk hit' hs' => ?_
    have e2 : ((x.length - 1 - i : Nat) : Int) - 1 = (x.length : Int) - 1 - ((i + 1 : Nat) : Int) := by omega
    rw [e2] at hit'
    exact hQ _ h' tk ⟨t', by rw [e]⟩ ⟨hi, hit'⟩ fun b o hb eo => hs'.extBut b o (fun h => hb (by simp [h])) eo
  done := fun s Q E st hQ => by
    have e : (x.length : Int) - 1 - (x.length : Int) = -1 := by omega
    have hit := st.2
    rw [e] at hit
    exact rv_next_end hh hit fun h' he' => hQ h' s.toks fun b o hb eo => he' b o (fun h => hb (by simp [h])) eo
  self := fun _ _ _ _ st hQ => rv_iter st.2 hQ
end Mine
end
section
open PySem PySem.W PyProof.Rows PySem.Calls
set_option maxRecDepth 100000
namespace Mine
noncomputable abbrev KgS {σ : Type} (Led : σ → List (Addr × Obj)) (ps : σ → List (Str × Value)) (Facts : σ → Prop) (x : Str) (stored : List Str) (m₀ : Str → Option Value) (P : σ → Prop) (m : Str → Option Value) (nx : List (Addr × Obj)) : Prop :=
  KstS Led ps Facts x stored m₀ (fun _ c => P c) [] m nx
section
variable {prog : Program} {w : World} {A : Around} {E : Value → Shared → Prop} {s : Shared} {env : Env} {h₀ : Heap} {x : Str} {body : List Stmt} {Q : Flow → Shared → Prop}
theorem kg_loop {σ : Type} {I : Addr} {n : Nat} {P : Nat → Value → Prop} {St : Nat → Heap → Prop} {m₀ : Str → Option Value} (Led : σ → List (Addr × Obj)) (ps : σ → List (Str × Value)) (Facts : σ → Prop) (stored : List Str) (Pw : Nat → σ → Prop) (c₀ : σ)
    (W : Walks prog w A I [I] [I] n P St) (hob : ∀ i h, St i h → ∃ o, h.get? I = some o) (hIL : env.locals ≠ I) (hI : h₀.get? I = none) (hst : St 0 s.heap)
    (F : Fr h₀ env.locals s.heap m₀) (N : News h₀ env.locals s.heap (Led c₀)) (hIn : ∀ p ∈ Led c₀, p.1 ≠ I) (hf : Facts c₀) (hk : ∀ p ∈ ps c₀, m₀ p.1 = some p.2) (hp : Pw 0 c₀)
    (turn : ∀ (c : σ) i v (u : Str → Option Value) h tk own, i < n → P i v → OwnOff own ((Led c).map (·.1)) → Facts c → Pw i c →
      Fr h₀ env.locals h (fun y => if y = x then some v else kstB (fun z => if stored.contains z then u z else m₀ z) (ps c) y) → News h₀ env.locals h (Led c ++ own) →
      wpAny (model prog w) A (execs body env) (InvPostG h₀ env.locals (KgS Led ps Facts x stored m₀ (Pw (i + 1))) own { s with heap := h, toks := tk } Q) E { s with heap := h, toks := tk })
    (done : ∀ (c : σ) (u : Str → Option Value) h tk, Facts c → Pw n c → Fr h₀ env.locals h (fun y => if y = x then u y else kstB (fun z => if stored.contains z then u z else m₀ z) (ps c) y) → News h₀ env.locals h (Led c) → Q .next { s with heap := h, toks := tk }) :
    LoopAtV prog w A h₀ env x body Q E (.ref I) s := by
  refine kdr_loop (news := Led c₀) (fun i m nx => KgS Led ps Facts x stored m₀ (Pw i) m nx) W (fun _ h => h) (fun _ h => h) ?_ ?_ ?_ ?_ hst F N ⟨c₀, rfl, hf, hk, fun _ _ _ _ => rfl, hp⟩ ?_ ?_
  · intro i h hi b hb
    rw [List.mem_singleton.mp hb]
    exact hob i h hi
  · exact fun hm => hIL (List.mem_singleton.mp hm)
  · intro b hb
    rw [List.mem_singleton.mp hb]
    exact hI
  · intro p hp' hm
    exact hIn p hp' (List.mem_singleton.mp hm)
  · rintro i v m₁ nx h tk own hi hv hoff ⟨c, rfl, hf', h1, h2, hp'⟩ F₁ N₁
    exact turn c i v m₁ h tk own hi hv hoff hf' hp' (kst_fr h1 h2 F₁) N₁
  · rintro m₁ nx h tk ⟨c, rfl, hf', h1, h2, hp'⟩ F₁ N₁
    exact done c m₁ h tk hf' hp' (kst_frOut h1 h2 F₁) N₁
/-- for x in reversed(text) -/
theorem kg_rev {σ : Type} {I : Addr} {xt : Str} {tt : Tok} {m₀ : Str → Option Value} (Led : σ → List (Addr × Obj)) (ps : σ → List (Str × Value)) (Facts : σ → Prop) (stored : List Str) (Pw : Nat → σ → Prop) (c₀ : σ)
    (hh : A.handled = none) (hz : xt.length ≤ 1000) (hI : h₀.get? I = none) (hIL : env.locals ≠ I) (hst : IsRv s.heap I xt tt ((xt.length : Int) - 1))
    (F : Fr h₀ env.locals s.heap m₀) (N : News h₀ env.locals s.heap (Led c₀)) (hIn : ∀ p ∈ Led c₀, p.1 ≠ I) (hf : Facts c₀) (hk : ∀ p ∈ ps c₀, m₀ p.1 = some p.2) (hp : Pw 0 c₀)
    (turn : ∀ (c : σ) (i : Nat) t' (u : Str → Option Value) h tk own, i < xt.length → OwnOff own ((Led c).map (·.1)) → Facts c → Pw i c →
      Fr h₀ env.locals h (fun y => if y = x then some (.str (Txt.item xt ((xt.length : Int) - 1 - (i : Int))) t') else kstB (fun z => if stored.contains z then u z else m₀ z) (ps c) y) → News h₀ env.locals h (Led c ++ own) →
      wpAny (model prog w) A (execs body env) (InvPostG h₀ env.locals (KgS Led ps Facts x stored m₀ (Pw (i + 1))) own { s with heap := h, toks := tk } Q) E { s with heap := h, toks := tk })
    (done : ∀ (c : σ) (u : Str → Option Value) h tk, Facts c → Pw xt.length c → Fr h₀ env.locals h (fun y => if y = x then u y else kstB (fun z => if stored.contains z then u z else m₀ z) (ps c) y) → News h₀ env.locals h (Led c) → Q .next { s with heap := h, toks := tk }) :
    wpAny (model prog w) A (pyIter (.ref I)) (fun it s₂ => LoopAtV prog w A h₀ env x body Q E it s₂) E s := by
  refine rv_iter hst ?_
  refine kg_loop Led ps Facts stored Pw c₀ (Walks.rv hh I xt tt hz) (fun i h st => ⟨_, st.2⟩) hIL hI ⟨Nat.zero_le _, by simpa using hst⟩ F N hIn hf hk hp ?_ done
  rintro c i v u h tk own hi ⟨t', rfl⟩ hoff hf' hp' F₁ N₁
  exact turn c i t' u h tk own hi hoff hf' hp' F₁ N₁
/-- for x in range(n - 1, -1, -1) -/
theorem kg_down {σ : Type} {r : Addr} {n : Nat} {t₀ u₀ v₀ : Tok} {m₀ : Str → Option Value} (Led : σ → List (Addr × Obj)) (ps : σ → List (Str × Value)) (Facts : σ → Prop) (stored : List Str) (Pw : Nat → σ → Prop) (c₀ : σ)
    (hh : A.handled = none) (hr : IsRange s.heap r ((n : Int) - 1) (-1) (-1) t₀ u₀ v₀) (hz : n ≤ 1000)
    (F : Fr h₀ env.locals s.heap m₀) (N : News h₀ env.locals s.heap (Led c₀)) (hf : Facts c₀) (hk : ∀ p ∈ ps c₀, m₀ p.1 = some p.2) (hp : Pw 0 c₀)
    (turn : ∀ (c : σ) (i : Nat) (k : Int) t' (u : Str → Option Value) h tk own, i < n → k = (n : Int) - 1 - (i : Int) → OwnOff own ((Led c).map (·.1)) → Facts c → Pw i c →
      Fr h₀ env.locals h (fun y => if y = x then some (.int k t') else kstB (fun z => if stored.contains z then u z else m₀ z) (ps c) y) → News h₀ env.locals h (Led c ++ own) →
      wpAny (model prog w) A (execs body env) (InvPostG h₀ env.locals (KgS Led ps Facts x stored m₀ (Pw (i + 1))) own { s with heap := h, toks := tk } Q) E { s with heap := h, toks := tk })
    (done : ∀ (c : σ) (u : Str → Option Value) h tk, Facts c → Pw n c → Fr h₀ env.locals h (fun y => if y = x then u y else kstB (fun z => if stored.contains z then u z else m₀ z) (ps c) y) → News h₀ env.locals h (Led c) → Q .next { s with heap := h, toks := tk }) :
    wpAny (model prog w) A (pyIter (.ref r)) (fun it s₂ => LoopAtV prog w A h₀ env x body Q E it s₂) E s := by
  have hn : Builtin.Range.rangeSize ((n : Int) - 1) (-1) (-1) = (n : Int) := by
    unfold Builtin.Range.rangeSize
    rw [if_neg (by decide), show (-(-1) : Int) = 1 by decide, Int.ediv_one]
    split <;> omega
  have f : ∀ i : Int, -100000 ≤ i → i ≤ 100000 → Builtin.Range.rangeFitsLong i = true := fun i h1 h2 => by
    unfold Builtin.Range.rangeFitsLong
    rw [Bool.and_eq_true, decide_eq_true_eq, decide_eq_true_eq]; omega
  have hsm : Builtin.Range.small ((n : Int) - 1) (-1) (-1) = true := by
    unfold Builtin.Range.small
    rw [hn, if_neg (by decide), f ((n : Int) - 1) (by omega) (by omega), f (-1) (by omega) (by omega), f n (by omega) (by omega), f (-1 + (-1 + 1)) (by omega) (by omega), Bool.or_true]
    rfl
  refine wpAny_pyIter_range hr hsm ?_
  have W : Walks prog w A s.heap.objs.size [s.heap.objs.size] [s.heap.objs.size] n (fun i v => i < n ∧ ∃ t, v = .int ((n : Int) - 1 + i * (-1)) t)
      (fun i h => IsRangeIter h s.heap.objs.size ((n : Int) - 1 + (i : Nat) * (-1)) ((n : Int) - (i : Nat)) (-1)) := (Walks.range hh _ ((n : Int) - 1) (-1) n).bound
  refine kg_loop Led ps Facts stored Pw c₀ W (fun i h st => ⟨_, st⟩) (fun e => absurd F.ns.lt (e ▸ Nat.lt_irrefl _)) (next_is_new F) (by show IsRangeIter _ _ _ _ _; rw [hn]; simpa using Heap.get?_push_size _ rfl)
    (F.push _) (fun p hp => ⟨Heap.get?_push_of_some _ (N p hp).1, (N p hp).2⟩) (fun p hp e => absurd (Heap.lt_size (N p hp).1) (e ▸ Nat.lt_irrefl _)) hf hk hp ?_ done
  rintro c i v u h tk own hi ⟨_, t', rfl⟩ hoff hf' hp' F₁ N₁
  have e : (n : Int) - 1 + (i : Int) * (-1) = (n : Int) - 1 - (i : Int) := by omega
  rw [e] at F₁
  exact turn c i _ t' u h tk own hi rfl hoff hf' hp' F₁ N₁
theorem kg_end {σ : Type} {Led : σ → List (Addr × Obj)} {ps : σ → List (Str × Value)} {Facts : σ → Prop} {stored : List Str} {m₀ : Str → Option Value} {P : σ → Prop} (c : σ) {L : Addr} {m' : Str → Option Value} {own news' : List (Addr × Obj)} {s₁ : Shared} {h' : Heap} {tk : Nat}
    (F : Fr h₀ L h' m') (N : News h₀ L h' news') (hn : ∀ p ∈ Led c, p ∈ news') (ho : ∀ p ∈ own, p ∈ news') (ha : OwnOff own ((Led c).map (·.1))) (hf : Facts c) (hk : ∀ p ∈ ps c, m' p.1 = some p.2) (hr : ∀ z, z ≠ x → (∀ p ∈ ps c, z ≠ p.1) → stored.contains z = false → m' z = m₀ z) (hp : P c) :
    InvEndG h₀ L (KgS Led ps Facts x stored m₀ P) own s₁ { s₁ with heap := h', toks := tk } :=
  InvEndG.intro F N ⟨c, rfl, hf, hk, hr, hp⟩ ha hn ho
end
theorem own_cons {own : List (Addr × Obj)} {D : Addr} {o : Obj} {rest : List (Addr × Obj)} (h1 : ∀ p ∈ own, p.1 < D) (h2 : OwnOff own (rest.map (·.1))) : OwnOff own (((D, o) :: rest).map (·.1)) := by
  intro p hp b hb
  rcases List.mem_cons.mp hb with rfl | hb
  · exact Nat.ne_of_lt (h1 p hp)
  · exact h2 p hp b hb
theorem own_tail {own : List (Addr × Obj)} {q : Addr × Obj} {rest : List (Addr × Obj)} (h : OwnOff own ((q :: rest).map (·.1))) : OwnOff own (rest.map (·.1)) := fun p hp b hb => h p hp b (List.Mem.tail _ hb)
end Mine
end
section
open PySem PySem.W PyProof.Rows PySem.Calls
set_option maxRecDepth 100000
namespace Mine
section
variable {prog : Program} {w : World} {A : Around} {E : Value → Shared → Prop} {s : Shared} {h₀ : Heap} {L : Addr} {m : Str → Option Value} {news : List (Addr × Obj)} {x : Str} {t : Tok}
theorem rv_K {Q : Value → Shared → Prop} (F : Fr h₀ L s.heap m) (N : News h₀ L s.heap news) (hx : x.length ≤ 1000)
    (h : ∀ D h' tk, Fr h₀ L h' m → News h₀ L h' ((D, rvObj x t ((x.length : Int) - 1)) :: news) → (∀ p ∈ news, p.1 < D) → Q (.ref D) { s with heap := h', toks := tk }) :
    wpAny (model prog w) A (call (.type "reversed") [.str x t]) Q E s :=
  call_rv (by omega) (h s.heap.objs.size _ _ (F.push _) (N.push F _) fun p hp => Heap.lt_size (N p hp).1)
end
noncomputable abbrev LSig : Type := Addr × List Value × List Int × Nat
noncomputable abbrev LLed (cst : List (Addr × Obj)) (c : LSig) : List (Addr × Obj) := (c.1, listOf c.2.1.toArray c.2.2.2) :: cst
noncomputable abbrev ListS (y : Str) (cst : List (Addr × Obj)) (x : Str) (stored : List Str) (m₀ : Str → Option Value) (Pw : Addr → List Int → Prop) (m : Str → Option Value) (nx : List (Addr × Obj)) : Prop :=
  KgS (LLed cst) (fun c => [(y, .ref c.1)]) (fun c => IntsAre c.2.1 c.2.2.1) x stored m₀ (fun c => Pw c.1 c.2.2.1) m nx
section
variable {prog : Program} {w : World} {A : Around} {E : Value → Shared → Prop} {s : Shared} {env : Env} {h₀ : Heap} {x : Str} {body : List Stmt} {Q : Flow → Shared → Prop}
theorem list_rev {I l : Addr} {vs : List Value} {ns : List Int} {cnt : Nat} {cst : List (Addr × Obj)} {xt : Str} {tt : Tok} {m₀ : Str → Option Value} (y : Str) (stored : List Str) (Pw : Nat → Addr → List Int → Prop)
    (hh : A.handled = none) (hz : xt.length ≤ 1000) (F : Fr h₀ env.locals s.heap m₀) (N : News h₀ env.locals s.heap ((I, rvObj xt tt ((xt.length : Int) - 1)) :: (l, listOf vs.toArray cnt) :: cst))
    (hl : ∀ p ∈ (l, listOf vs.toArray cnt) :: cst, p.1 < I) (hi : IntsAre vs ns) (hk : m₀ y = some (.ref l)) (hp : Pw 0 l ns)
    (turn : ∀ (l : Addr) (vs : List Value) (ns : List Int) (cnt : Nat) (i : Nat) t' (u : Str → Option Value) h tk own, i < xt.length → OwnOff own (((l, listOf vs.toArray cnt) :: cst).map (·.1)) → IntsAre vs ns → Pw i l ns →
      Fr h₀ env.locals h (fun z => if z = x then some (.str (Txt.item xt ((xt.length : Int) - 1 - (i : Int))) t') else if z = y then some (.ref l) else if stored.contains z then u z else m₀ z) → News h₀ env.locals h ((l, listOf vs.toArray cnt) :: (cst ++ own)) →
      wpAny (model prog w) A (execs body env) (InvPostG h₀ env.locals (ListS y cst x stored m₀ (Pw (i + 1))) own { s with heap := h, toks := tk } Q) E { s with heap := h, toks := tk })
    (done : ∀ (l : Addr) (vs : List Value) (ns : List Int) (cnt : Nat) (u : Str → Option Value) h tk, IntsAre vs ns → Pw xt.length l ns →
      Fr h₀ env.locals h (fun z => if z = x then u z else if z = y then some (.ref l) else if stored.contains z then u z else m₀ z) → News h₀ env.locals h ((l, listOf vs.toArray cnt) :: cst) → Q .next { s with heap := h, toks := tk }) :
    wpAny (model prog w) A (pyIter (.ref I)) (fun it s₂ => LoopAtV prog w A h₀ env x body Q E it s₂) E s :=
  kg_rev (σ := LSig) (LLed cst) (fun c => [(y, .ref c.1)]) (fun c => IntsAre c.2.1 c.2.2.1) stored (fun i c => Pw i c.1 c.2.2.1) (l, vs, ns, cnt) hh hz (N _ (List.Mem.head _)).2.2 (fun e => (N _ (List.Mem.head _)).2.1 e.symm) (N _ (List.Mem.head _)).1 F
    (fun p hp' => N p (List.Mem.tail _ hp')) (fun p hp' => Nat.ne_of_lt (hl p hp')) hi (by intro p hp'; rw [List.mem_singleton.mp hp']; exact hk) hp
    (fun c i t' u h tk own h1 h2 h3 h4 F' N' => turn c.1 c.2.1 c.2.2.1 c.2.2.2 i t' u h tk own h1 h2 h3 h4 F' N')
    (fun c u h tk h1 h2 F' N' => done c.1 c.2.1 c.2.2.1 c.2.2.2 u h tk h1 h2 F' N')
theorem list_down {r l : Addr} {n : Nat} {vs : List Value} {ns : List Int} {cnt : Nat} {cst : List (Addr × Obj)} {t₀ u₀ v₀ : Tok} {m₀ : Str → Option Value} (y : Str) (stored : List Str) (Pw : Nat → Addr → List Int → Prop)
    (hh : A.handled = none) (hz : n ≤ 1000) (hr : IsRange s.heap r ((n : Int) - 1) (-1) (-1) t₀ u₀ v₀) (F : Fr h₀ env.locals s.heap m₀) (N : News h₀ env.locals s.heap ((l, listOf vs.toArray cnt) :: cst))
    (hi : IntsAre vs ns) (hk : m₀ y = some (.ref l)) (hp : Pw 0 l ns)
    (turn : ∀ (l : Addr) (vs : List Value) (ns : List Int) (cnt : Nat) (i : Nat) (k : Int) t' (u : Str → Option Value) h tk own, i < n → k = (n : Int) - 1 - (i : Int) → OwnOff own (((l, listOf vs.toArray cnt) :: cst).map (·.1)) → IntsAre vs ns → Pw i l ns →
      Fr h₀ env.locals h (fun z => if z = x then some (.int k t') else if z = y then some (.ref l) else if stored.contains z then u z else m₀ z) → News h₀ env.locals h ((l, listOf vs.toArray cnt) :: (cst ++ own)) →
      wpAny (model prog w) A (execs body env) (InvPostG h₀ env.locals (ListS y cst x stored m₀ (Pw (i + 1))) own { s with heap := h, toks := tk } Q) E { s with heap := h, toks := tk })
    (done : ∀ (l : Addr) (vs : List Value) (ns : List Int) (cnt : Nat) (u : Str → Option Value) h tk, IntsAre vs ns → Pw n l ns →
      Fr h₀ env.locals h (fun z => if z = x then u z else if z = y then some (.ref l) else if stored.contains z then u z else m₀ z) → News h₀ env.locals h ((l, listOf vs.toArray cnt) :: cst) → Q .next { s with heap := h, toks := tk }) :
    wpAny (model prog w) A (pyIter (.ref r)) (fun it s₂ => LoopAtV prog w A h₀ env x body Q E it s₂) E s :=
  kg_down (σ := LSig) (LLed cst) (fun c => [(y, .ref c.1)]) (fun c => IntsAre c.2.1 c.2.2.1) stored (fun i c => Pw i c.1 c.2.2.1) (l, vs, ns, cnt) hh hr hz F N hi (by intro p hp'; rw [List.mem_singleton.mp hp']; exact hk) hp
    (fun c i k t' u h tk own h1 h1' h2 h3 h4 F' N' => turn c.1 c.2.1 c.2.2.1 c.2.2.2 i k t' u h tk own h1 h1' h2 h3 h4 F' N')
    (fun c u h tk h1 h2 F' N' => done c.1 c.2.1 c.2.2.1 c.2.2.2 u h tk h1 h2 F' N')
theorem list_end {y : Str} {cst : List (Addr × Obj)} {stored : List Str} {m₀ : Str → Option Value} {Pw : Addr → List Int → Prop} {l : Addr} {vs : List Value} {ns : List Int} {cnt : Nat} {L : Addr} {m' : Str → Option Value} {own news' : List (Addr × Obj)} {s₁ : Shared} {h' : Heap} {tk : Nat}
    (F : Fr h₀ L h' m') (N : News h₀ L h' news') (hk : m' y = some (.ref l)) (hm : (l, listOf vs.toArray cnt) ∈ news') (hc : ∀ p ∈ cst, p ∈ news') (ho : ∀ p ∈ own, p ∈ news') (hl : ∀ p ∈ own, p.1 < l) (hoff : OwnOff own (cst.map (·.1))) (hi : IntsAre vs ns)
    (hr : ∀ z, z ≠ x → z ≠ y → stored.contains z = false → m' z = m₀ z) (hp : Pw l ns) :
    InvEndG h₀ L (ListS y cst x stored m₀ Pw) own s₁ { s₁ with heap := h', toks := tk } :=
  kg_end (σ := LSig) (l, vs, ns, cnt) F N (by
    intro p hp'
    rcases List.mem_cons.mp hp' with rfl | hp'
    · exact hm
    · exact hc p hp') ho (own_cons hl hoff) hi (by intro p hp'; rw [List.mem_singleton.mp hp']; exact hk) (fun z h1 h2 h3 => hr z h1 (h2 _ (List.mem_singleton.mpr rfl)) h3) hp
end
/-- one row of the table of ends -/
noncomputable def farRow (U V : List Nat) : List Int := (List.range (V.length + 1)).map fun j => ((dist cc U (V.drop j) : Nat) : Int)
noncomputable def farPart (U V : List Nat) (lo n : Nat) : List Int := (List.range' lo n).map fun j => ((dist cc U (V.drop j) : Nat) : Int)
structure FarOut (u v : Str) (i : Nat) (bs : List Int) : Prop where
  row : bs = farRow ((cl u).drop (u.length - i)) (cl v)
structure FarIn (u v : Str) (i k : Nat) (hs : List Int) : Prop where
  row : hs = farPart ((cl u).drop (u.length - (i + 1))) (cl v) (v.length - k) (k + 1)
theorem farRow_len (U V : List Nat) : (farRow U V).length = V.length + 1 := by simp [farRow]
theorem farPart_len (U V : List Nat) (lo n : Nat) : (farPart U V lo n).length = n := by simp [farPart]
theorem farOut_len {u v : Str} {i : Nat} {bs : List Int} (h : FarOut u v i bs) : bs.length = v.length + 1 := by rw [h.row, farRow_len, cl_len]
theorem farIn_len {u v : Str} {i k : Nat} {hs : List Int} (h : FarIn u v i k hs) : hs.length = k + 1 := by rw [h.row, farPart_len]
end Mine
end
section
open PySem PySem.W PyProof.Rows PySem.Calls
set_option maxRecDepth 100000
namespace Mine
section
variable {prog : Program} {w : World} {A : Around} {E : Value → Shared → Prop} {s : Shared} {h₀ : Heap} {L : Addr} {m : Str → Option Value} {news : List (Addr × Obj)}
theorem min_three_N {a b c : Int} {t u x : Tok} {Q : Value → Shared → Prop} (hh : A.handled = none) (F : Fr h₀ L s.heap m) (N : News h₀ L s.heap news)
    (h : ∀ r tok h' tk, r = min a (min b c) → Fr h₀ L h' m → News h₀ L h' news → Q (.int r tok) { s with heap := h', toks := tk }) :
    wpAny (model prog w) A (call (.builtin "min") [.int a t, .int b u, .int c x]) Q E s := by
  refine min_three_ints hh fun h' tk hk => ?_
  have key := fun r tok e => h r tok h' tk e (F.grownK hk) (N.grown hk)
  by_cases hba : b < a <;> by_cases hc1 : c < b <;> by_cases hc2 : c < a <;> simp only [hba, hc1, hc2, if_true, if_false] at key ⊢ <;> exact key _ _ (by omega)
end
theorem farRow_get {U V : List Nat} {j : Nat} (h : j ≤ V.length) : (farRow U V).getD j 0 = (dist cc U (V.drop j) : Int) := by
  unfold farRow
  rw [List.getD_eq_getElem?_getD, List.getElem?_map, List.getElem?_range (by omega)]
  rfl
theorem farPart_get {U V : List Nat} {lo n : Nat} (h : 1 ≤ n) : (farPart U V lo n).getD 0 0 = (dist cc U (V.drop lo) : Int) := by
  unfold farPart
  obtain ⟨k, rfl⟩ : ∃ k, n = k + 1 := ⟨n - 1, by omega⟩
  rw [List.range'_succ]; rfl
theorem far_first (u v : Str) : FarOut u v 0 ((rangeKs 0 (((v.length : Int) + 1 - 0).toNat)).map fun k => 2 * ((v.length : Int) - k)) := by
  refine ⟨?_⟩
  have e : (cl u).drop (u.length - 0) = [] := List.drop_of_length_le (by rw [cl_len]; omega)
  rw [e]
  unfold farRow
  unfold rangeKs; rw [cl_len, List.map_map]
  have e2 : ((v.length : Int) + 1 - 0).toNat = v.length + 1 := by omega
  rw [e2]
  apply List.map_congr_left
  intro k hk
  have := List.mem_range.mp hk
  rw [d_nil, List.length_drop, cl_len]
  simp only [Function.comp]
  omega
theorem far_start {u v : Str} {i : Nat} {bs : List Int} (h : FarOut u v i bs) (hi : i < u.length) : FarIn u v i 0 [bs.getD (-1 + (bs.length : Int)).toNat 0 + 2] := by
  have hl := farOut_len h
  refine ⟨?_⟩
  have e : (-1 + (bs.length : Int)).toNat = v.length := by omega
  rw [e, h.row, farRow_get (by rw [cl_len]; omega)]
  unfold farPart
  rw [Nat.zero_add, Nat.sub_zero]
  simp only [List.range'_one, List.map_cons, List.map_nil]
  have e3 : (cl v).drop v.length = [] := List.drop_of_length_le (by rw [cl_len]; omega)
  rw [e3, d_nil', d_nil', List.length_drop, List.length_drop, cl_len]
  congr 1
  omega
theorem far_end {u v : Str} {i n : Nat} {hs : List Int} (h : FarIn u v i n hs) (hn : n = v.length) : FarOut u v (i + 1) hs := by
  refine ⟨?_⟩
  rw [h.row]
  unfold farPart farRow
  rw [hn, Nat.sub_self, cl_len, List.range_eq_range']
theorem far_last {u v : Str} {bs : List Int} (h : FarOut u v u.length bs) : bs.getD 0 0 = (DD u v : Int) := by
  rw [h.row, farRow_get (by omega), Nat.sub_self, List.drop_zero, List.drop_zero]
  rfl
theorem nat_min (a b : Nat) : ((min a b : Nat) : Int) = min (a : Int) (b : Int) := by omega
theorem far_step {u v : Str} {i k : Nat} {bs hs : List Int} {p r kj : Int} (ho : FarOut u v i bs) (h : FarIn u v i k hs) (hi : i < u.length) (hk : k < v.length) (hkj : kj = (v.length : Int) - 1 - (k : Int))
    (hr : r = min (p + bs.getD (kj + 1).toNat 0) (min (2 + bs.getD kj.toNat 0) (2 + hs.getD 0 0)))
    (hp : p = scost (Txt.item u ((u.length : Int) - 1 - (i : Int))) (Txt.item v kj)) : FarIn u v i (k + 1) ([r] ++ hs) := by
  have e0 : kj.toNat = v.length - (k + 1) := by omega
  have e1 : (kj + 1).toNat = v.length - k := by omega
  have e2 : ((u.length : Int) - 1 - (i : Int)).toNat = u.length - (i + 1) := by omega
  rw [item_cl (by omega) (by omega), item_cl (by omega) (by omega), scost_cc, e0, e2] at hp
  rw [e0, e1, ho.row, h.row, farRow_get (by rw [cl_len]; omega), farRow_get (by rw [cl_len]; omega), farPart_get (by omega)] at hr
  refine ⟨?_⟩
  rw [h.row]
  have e3 : v.length - (k + 1) + 1 = v.length - k := by omega
  have e4 : u.length - (i + 1) + 1 = u.length - i := by omega
  have d1 := drop_prev (l := cl u) (k := u.length - (i + 1)) (by rw [cl_len]; omega)
  have d2 := drop_prev (l := cl v) (k := v.length - (k + 1)) (by rw [cl_len]; omega)
  rw [e4] at d1
  rw [e3] at d2
  show r :: _ = farPart _ _ _ (k + 1 + 1)
  conv => rhs; unfold farPart; rw [List.range'_succ]
  rw [e3, List.map_cons]
  congr 1
  have st := d_cons (c := cc) ((cl u).getD (u.length - (i + 1)) 0) ((cl v).getD (v.length - (k + 1)) 0) ((cl u).drop (u.length - i)) ((cl v).drop (v.length - k))
  rw [← d1, ← d2] at st
  rw [hr, hp, st, nat_min, nat_min, Int.natCast_add, Int.natCast_add, Int.natCast_add]
  exact congrArg (min _) (Int.min_comm _ _)
theorem far_price0 {x y : Str} (h : (x == y) = true) : (0 : Int) = scost x y := by unfold scost; rw [if_pos (eq_of_beq h)]
theorem far_price1 {x y : Str} (h : (x == y) = false) (h2 : (Txt.lower x == Txt.lower y) = true) : (1 : Int) = scost x y := by
  unfold scost low; rw [if_neg (ne_of_beq_false h), if_pos (eq_of_beq h2)]
theorem far_price2 {x y : Str} (h : (x == y) = false) (h2 : (Txt.lower x == Txt.lower y) = false) : (2 : Int) = scost x y := by
  unfold scost low; rw [if_neg (ne_of_beq_false h), if_neg (ne_of_beq_false h2)]
end Mine
end
section
open PySem PySem.W PyProof.Rows PySem.Calls
set_option maxRecDepth 100000
namespace Mine
theorem lt_right {a b : Addr} {l r : List (Addr × Obj)} (h : a < b ∧ AllLt b (l ++ r)) : ∀ p ∈ r, p.1 < b := fun p hp => kst_ltOf h.2 p (List.mem_append_right _ hp)
theorem lt_right2 {a b d : Addr} {l r : List (Addr × Obj)} (h : a < d ∧ b < d ∧ AllLt d (l ++ r)) : ∀ p ∈ r, p.1 < d := fun p hp => kst_ltOf h.2.2 p (List.mem_append_right _ hp)
theorem lt_low {a b d : Addr} {l : List (Addr × Obj)} (h : a < d ∧ b < d ∧ AllLt d l) {own : List (Addr × Obj)} (h2 : ∀ p ∈ own, p.1 < b) : ∀ p ∈ own, p.1 < d := fun p hp => Nat.lt_trans (h2 p hp) h.2.1
local macro_rules | `(tactic| omega) => `(tactic| k_extra "om")
set_option maxHeartbeats 4000000 in
theorem far_c (w mean mg mb) (a b : Str) (ta tb : Tok) : Con w mean mg mb 48 [.str a ta, .str b tb] (a.length ≤ 8 ∧ b.length ≤ 8) 3 24 (fun t => .int (DD a b) t) := by
  unfold Con KK Mine.prog TopM; k_with_none; w_top off; k_fill
  intro dp un gd cn cs a' ccd cl outer A₀ base h₀ L m news s Q E B F X N T hk hpre hd hu hret
  obtain ⟨hla, hlb⟩ := hpre
  skip
  k_with "om" => with_reducible first
    | decide
    | exact oU1 (by assumption)
    | exact oU (by assumption) (by decide)
    | exact fJ0 (by assumption) (by assumption)
    | exact fJn (by assumption)
    | exact o0neg (fJ0 (by assumption) (by assumption))
    | exact f0m (fJ0 (by assumption) (by assumption)) (by decide)
    | exact s1k1 (fJ0 (by assumption) (by assumption))
    | exact fK1 (fJn (by assumption)) (by assumption) (by decide)
    | exact fKc (fJn (by assumption)) (by assumption) (by decide)
    | exact fLn (fJn (by assumption)) (by assumption)
    | exact fLn1 (fJn (by assumption)) (by assumption)
    | exact f50 (by assumption) (by assumption) (by assumption) (by decide)
    | exact f12 (by assumption) (by decide)
    | exact f25 (by assumption)
    | exact f57 (by assumption)
    | exact f10 (by decide)
    | exact f11 (by assumption) (by decide)
    | exact oGe8 (by assumption) (by decide)
    | exact oLt8 (by assumption) (by decide)
    | exact Nat.le_trans (show _ ≤ 8 by assumption) (by decide)
    | exact Nat.le_trans (And.right (by assumption)) (by decide)
    | exact Nat.le_trans (Nat.le_of_eq (by assumption)) (by decide)
  k_with "call type:reversed" =>
    ((rename Fr _ _ _ _ => lF'); (rename News _ _ _ _ => lN'); (refine rv_K lF' lN' (by omega) ?_); (clear lF' lN'; intro D' h' tk' F' N' l1; (try dsimp only)))
  k_with "pyIter ref" =>
    (k_of "x" => ((rename Fr _ _ _ _ => lF'); (rename News _ _ _ _ => lN'); (refine list_rev (Str.ofString "below") [Str.ofString "x", Str.ofString "here", Str.ofString "j", Str.ofString "price", Str.ofString "below"] (fun i _ bs => FarOut a b i bs) (by rfl) (by omega) lF' lN' (by assumption) (by assumption) (by rfl) (by exact far_first _ _) ?_ ?_; (clear lF' lN'); (rotate_left; (intro lB vsB nsB cntB u' h' tk' hiB hpB F' N'; (try dsimp only); have lenB := farOut_len hpB; have lenB2 := IntsAre.length hiB); rotate_right); (intro lB vsB nsB cntB iB t' u' h' tk' ownB hiB hoffB hIB hpB F' N'; (try dsimp only); have lenB := farOut_len hpB; have lenB2 := IntsAre.length hIB; have lenX : (Txt.item a ((a.length : Int) - 1 - (iB : Int))).length = 1 := rfl); (all_goals (try k_fold)))))
  k_with "pyIter ref" =>
    (k_of "j" => ((rename Fr _ _ _ _ => lF'); (rename News _ _ _ _ => lN'); (rename IsRange _ _ _ _ _ _ _ _ => rgX); (refine list_down (n := b.length) (Str.ofString "here") [Str.ofString "here", Str.ofString "j", Str.ofString "price"] (fun k l hs => FarIn a b iB k hs ∧ ∀ p ∈ ownB, p.1 < l) (by rfl) (by omega) rgX lF' lN' (by exact IntsAre.cons _ _ IntsAre.nil) (by rfl) (by exact ⟨far_start hpB hiB, lt_right (by assumption)⟩) ?_ ?_; (clear lF' lN' rgX); (rotate_left; (intro lH vsH nsH cntH u' h' tk' hiH hpH F' N'; (try dsimp only)); rotate_right); (intro lH vsH nsH cntH iJ kJ t' u' h' tk' ownJ hiJ hkJ hoffJ hIJ hpJ F' N'; (try dsimp only); have lenH := farIn_len hpJ.1; have lenH2 := IntsAre.length hIJ); (all_goals (try k_fold)))))
  k_with "call builtin:min" =>
    ((rename Fr _ _ _ _ => lF'); (rename News _ _ _ _ => lN'); (refine min_three_N (by rfl) lF' lN' ?_); (clear lF' lN'; intro rM tM h' tk' hrM F' N'; (try dsimp only)))
  refine wpAny_call ?_
  k_dflt (refine code_defC (by k_asm) (by k_asm) (by k_asm) (by k_asm) (by k_asm) (by exact rfl) (by exact rfl) (by assumption) (by k_is) (by k_is) (by ktr_room) (by exact BindsTo.of_eq rfl) (by rfl) (by decide) ?_ (by exact rfl) (by exact rfl) (by exact rfl); k_whole; intro g' L' h' tk' cells' FG' F' N' C' B' X' T' l1; (try k_lt l1); k_cells C'; (try simp only [List.cons_append, List.nil_append] at N'); (try dsimp only); (try k_lift B'); (try k_fold))
  skip
  k_steps
  skip
  all_goals try ((with_reducible show InvEndG _ _ _ _ _ _); (rename News _ _ _ _ => nE'); first
                       | (refine list_end (by assumption) nE' (by rfl) (by exact List.Mem.head _) (by exact fun p hp => .tail _ (.tail _ (.tail _ (List.mem_append_left _ hp)))) (by exact fun p hp => .tail _ (.tail _ (.tail _ (List.mem_append_right _ hp)))) (by exact lt_right2 (by assumption)) (by exact own_tail hoffJ) (by assumption) (by intro z h1 h2 h3; (simp only [List.contains_cons, List.contains_nil, Bool.or_false, Bool.or_eq_false_iff, beq_eq_false_iff_ne, ne_eq] at h3); (simp only [h1, h2, h3, List.contains_cons, List.contains_nil, beq_iff_eq, Bool.or_eq_true, or_self, Bool.false_eq_true, if_false])) (by exact ⟨far_step hpB hpJ.1 hiB hiJ hkJ hrM (by with_reducible first | exact far_price0 (by assumption) | exact far_price2 (by assumption) (by assumption) | exact far_price1 (by assumption) (by assumption)), lt_low (by assumption) hpJ.2⟩))
                       | (refine list_end (by assumption) nE' (by rfl) (by exact List.Mem.head _) (by exact fun p hp => .tail _ (.tail _ (List.mem_append_left _ hp))) (by exact fun p hp => .tail _ (.tail _ (List.mem_append_right _ hp))) (by exact hpH.2) (by exact own_tail hoffB) (by assumption) (by intro z h1 h2 h3; (simp only [List.contains_cons, List.contains_nil, Bool.or_false, Bool.or_eq_false_iff, beq_eq_false_iff_ne, ne_eq] at h3); (simp only [h1, h2, h3, List.contains_cons, List.contains_nil, beq_iff_eq, Bool.or_eq_true, or_self, Bool.false_eq_true, if_false])) (by exact far_end hpH.1 rfl))
                       | (skip; fail "stop"))
  all_goals (refine cb_retI hret ?e1 ?e2 ?e3; (case e2 => k_asm); (case e3 => first | k_asm | (refine' cb_drop ?cbN ?cbS; (case cbN => assumption); (case cbS => first | exact fun _ h9 => List.mem_cons_of_mem _ h9 | exact fun _ h9 => List.mem_cons_of_mem _ (List.mem_cons_of_mem _ h9)))); (case e1 => exact far_last hpB))
  skip
end Mine
end
section
open PySem PySem.W PyProof.Rows PySem.Calls
set_option maxRecDepth 100000
namespace Mine
/-- the ties of five words: what the two double loops build -/
noncomputable def tieStep (R : Nat → Nat → Bool) (ts : List Int) (j i : Nat) : List Int :=
  if R i j then ((ts.set i (ts.getD i 0 + 2 ^ j)).set j ((ts.set i (ts.getD i 0 + 2 ^ j)).getD j 0 + 2 ^ i)) else ts
noncomputable def tieIn (R : Nat → Nat → Bool) (ts : List Int) (j : Nat) : Nat → List Int
  | 0 => ts
  | i + 1 => tieStep R (tieIn R ts j i) j i
noncomputable def tieOut (R : Nat → Nat → Bool) : Nat → List Int
  | 0 => [0, 0, 0, 0, 0]
  | j + 1 => tieIn R (tieOut R j) j j
theorem tieStep_len (R ts j i) : (tieStep R ts j i).length = ts.length := by unfold tieStep; split <;> simp
theorem tieIn_len (R ts j) : ∀ i, (tieIn R ts j i).length = ts.length
  | 0 => rfl
  | i + 1 => by rw [tieIn, tieStep_len, tieIn_len R ts j i]
theorem tieOut_len (R) : ∀ j, (tieOut R j).length = 5
  | 0 => rfl
  | j + 1 => by rw [tieOut, tieIn_len, tieOut_len R j]
structure TieO (R : Nat → Nat → Bool) (j : Nat) (ts : List Int) : Prop where
  row : ts = tieOut R j
structure TieI (R : Nat → Nat → Bool) (j i : Nat) (ts : List Int) : Prop where
  row : ts = tieIn R (tieOut R j) j i
theorem tie_first (R) : TieO R ([] : List Int).length [0, 0, 0, 0, 0] ∧ ([0, 0, 0, 0, 0] : List Int).length = 5 := ⟨⟨rfl⟩, rfl⟩
theorem tie_start {R} {n : Nat} {ts : List Int} (h : TieO R n ts) (hl : ts.length = 5) : TieI R n ([] : List Int).length ts ∧ ts.length = 5 := ⟨⟨h.row⟩, hl⟩
theorem tie_up {R} {pre : List Int} {n : Nat} {k : Int} {ts : List Int} (h : TieI R pre.length n ts) (hl : ts.length = 5) (hn : n = pre.length) : TieO R (pre ++ [k]).length ts ∧ ts.length = 5 := by
  refine ⟨⟨?_⟩, hl⟩
  rw [List.length_append, List.length_singleton, tieOut, h.row, hn]
theorem tie_no {R} {pre : List Int} {n : Nat} {k : Int} {ts : List Int} (h : TieI R n pre.length ts) (hl : ts.length = 5) (hr : R pre.length n = false) : TieI R n (pre ++ [k]).length ts ∧ ts.length = 5 := by
  refine ⟨⟨?_⟩, hl⟩
  rw [List.length_append, List.length_singleton, tieIn, ← h.row, tieStep, hr]; rfl
theorem tie_yes {R} {pre : List Int} {n : Nat} {k kj : Int} {ts us : List Int} (h : TieI R n pre.length ts) (hl : ts.length = 5) (hk : k.toNat = pre.length) (hj : kj.toNat = n)
    (hu : us = (ts.set k.toNat (ts.getD k.toNat 0 + 2 ^ kj.toNat)).set kj.toNat ((ts.set k.toNat (ts.getD k.toNat 0 + 2 ^ kj.toNat)).getD kj.toNat 0 + 2 ^ k.toNat)) (hr : R pre.length n = true) : TieI R n (pre ++ [k]).length us ∧ us.length = 5 := by
  refine ⟨⟨?_⟩, ?_⟩
  · rw [List.length_append, List.length_singleton, tieIn, ← h.row, tieStep, hr, if_pos rfl, hu, hk, hj]
  · rw [hu, List.length_set, List.length_set, hl]
/-- contract of a def that is handed one list and hands back a new list of ints -/
noncomputable abbrev ConL (w : World) (mean : ExcName → Option Value) (mg mb : Str → Option Value) (f : Addr) (vs : List Value) (q : Addr × Obj) (pre : Prop) (dd du : Nat) (R : List Int) : Prop :=
  ∀ (dp un : Nat) (gd : Option (List Code)) (cn : Str) (cs : Scope) (a : Addr) (ccd : Value) (cl : List (Str × Addr)) (outer : List Env) (A₀ : Around) (base h₀ : Heap) (L : Addr) (m : Str → Option Value) (news : List (Addr × Obj)) (s : Shared) (Q E : Value → Shared → Prop),
    Below A₀ base outer h₀ → Fr h₀ L s.heap m → (KK w).In h₀ → News h₀ L s.heap (q :: news) → TopM mean mg mb h₀ → cs.kind = .function →
    pre → dp + dd < recursionLimit → un + du < cLine →
    (∀ (D : Addr) (us : List Value) (c : Nat) (h' : Heap) (tk' : Nat), Fr h₀ L h' m → News h₀ L h' ((D, listOf us.toArray c) :: q :: news) → (∀ p ∈ q :: news, p.1 < D) → IntsAre us R → Q (.ref D) { s with heap := h', toks := tk' }) →
      wpAny (model prog w) (ktrTop dp un gd cn cs L a ccd cl outer) (call (.ref f) vs) Q E s
/-- the words in order -/
noncomputable def wAt (ws : List Str) (i : Nat) : Str := ws.getD i Str.empty
noncomputable def ownR (ws : List Str) (i j : Nat) : Bool := scatB (wAt ws i) (wAt ws j) || scatB (wAt ws j) (wAt ws i)
/-- a list and a cell stand apart -/
theorem cell_off {h₀ h : Heap} {L : Addr} {news : List (Addr × Obj)} {c d : Addr} {o o4 : Obj} {v : Option Value} (N : News h₀ L h news) (hc : (c, o4) ∈ news) (hd : o4.data = .cell v) (hl : (d, o) ∈ news) (hs : ∀ v, o.data ≠ .cell v) : @Ne Nat d c := fun q => by
  have z1 := (N _ hl).1
  have z2 := (N _ hc).1
  rw [show d = c from q] at z1
  rw [z1] at z2
  cases Option.some.inj z2
  exact hs _ hd
end Mine
end
section
open PySem PySem.W PyProof.Rows PySem.Calls
set_option maxRecDepth 100000
namespace Mine
theorem ints5 {h₀ h : Heap} {L l : Addr} {a b c d e : Int} {t1 t2 t3 t4 t5 : Tok} {n : Nat} {r : List (Addr × Obj)} (_ : News h₀ L h ((l, listOf #[.int a t1, .int b t2, .int c t3, .int d t4, .int e t5] n) :: r)) : IntsAre [.int a t1, .int b t2, .int c t3, .int d t4, .int e t5] [a, b, c, d, e] :=
  .cons _ _ (.cons _ _ (.cons _ _ (.cons _ _ (.cons _ _ .nil))))
theorem own_yes {R} {pre : List Int} {n : Nat} {k kj : Int} {ts : List Int} (h : TieI R n pre.length ts) (hl : ts.length = 5) (hk : k = 0 + (pre.length : Int)) (hj : kj = 0 + (n : Int)) (hr : R pre.length n = true) :
    TieI R n (pre ++ [k]).length ((ts.set k.toNat (ts.getD k.toNat 0 + 2 ^ kj.toNat)).set kj.toNat ((ts.set k.toNat (ts.getD k.toNat 0 + 2 ^ kj.toNat)).getD kj.toNat 0 + 2 ^ k.toNat)) ∧ ((ts.set k.toNat (ts.getD k.toNat 0 + 2 ^ kj.toNat)).set kj.toNat ((ts.set k.toNat (ts.getD k.toNat 0 + 2 ^ kj.toNat)).getD kj.toNat 0 + 2 ^ k.toNat)).length = 5 :=
  tie_yes h hl (by omega) (by omega) rfl hr
theorem own_yes1 {ws : List Str} {pre : List Int} {n : Nat} {k kj : Int} {ts : List Int} (h : TieI (ownR ws) n pre.length ts) (hl : ts.length = 5) (hk : k = 0 + (pre.length : Int)) (hj : kj = 0 + (n : Int)) (hr : scatB (ws.getD k.toNat Str.empty) (ws.getD kj.toNat Str.empty) = true) :
    TieI (ownR ws) n (pre ++ [k]).length ((ts.set k.toNat (ts.getD k.toNat 0 + 2 ^ kj.toNat)).set kj.toNat ((ts.set k.toNat (ts.getD k.toNat 0 + 2 ^ kj.toNat)).getD kj.toNat 0 + 2 ^ k.toNat)) ∧ ((ts.set k.toNat (ts.getD k.toNat 0 + 2 ^ kj.toNat)).set kj.toNat ((ts.set k.toNat (ts.getD k.toNat 0 + 2 ^ kj.toNat)).getD kj.toNat 0 + 2 ^ k.toNat)).length = 5 := by
  refine own_yes h hl hk hj ?_
  have e1 : k.toNat = pre.length := by omega
  have e2 : kj.toNat = n := by omega
  rw [e1, e2] at hr
  unfold ownR wAt; rw [hr]; rfl
theorem own_yes2 {ws : List Str} {pre : List Int} {n : Nat} {k kj : Int} {ts : List Int} (h : TieI (ownR ws) n pre.length ts) (hl : ts.length = 5) (hk : k = 0 + (pre.length : Int)) (hj : kj = 0 + (n : Int)) (hr : scatB (ws.getD kj.toNat Str.empty) (ws.getD k.toNat Str.empty) = true) :
    TieI (ownR ws) n (pre ++ [k]).length ((ts.set k.toNat (ts.getD k.toNat 0 + 2 ^ kj.toNat)).set kj.toNat ((ts.set k.toNat (ts.getD k.toNat 0 + 2 ^ kj.toNat)).getD kj.toNat 0 + 2 ^ k.toNat)) ∧ ((ts.set k.toNat (ts.getD k.toNat 0 + 2 ^ kj.toNat)).set kj.toNat ((ts.set k.toNat (ts.getD k.toNat 0 + 2 ^ kj.toNat)).getD kj.toNat 0 + 2 ^ k.toNat)).length = 5 := by
  refine own_yes h hl hk hj ?_
  have e1 : k.toNat = pre.length := by omega
  have e2 : kj.toNat = n := by omega
  rw [e1, e2] at hr
  unfold ownR wAt; rw [hr, Bool.or_true]
theorem own_no {ws : List Str} {pre : List Int} {n : Nat} {k kj : Int} {ts : List Int} (h : TieI (ownR ws) n pre.length ts) (hl : ts.length = 5) (hk : k = 0 + (pre.length : Int)) (hj : kj = 0 + (n : Int))
    (hr : scatB (ws.getD k.toNat Str.empty) (ws.getD kj.toNat Str.empty) = false) (hr2 : scatB (ws.getD kj.toNat Str.empty) (ws.getD k.toNat Str.empty) = false) : TieI (ownR ws) n (pre ++ [k]).length ts ∧ ts.length = 5 := by
  refine tie_no h hl ?_
  have e1 : k.toNat = pre.length := by omega
  have e2 : kj.toNat = n := by omega
  rw [e1, e2] at hr hr2
  unfold ownR wAt; rw [hr, hr2]; rfl
theorem tie_done {R} {n : Nat} {ts : List Int} {us : List Value} (h : TieO R n ts) (hn : n = 5) (hi : IntsAre us ts) : IntsAre us (tieOut R 5) := by rw [← hn, ← h.row]; exact hi
theorem getD_le {ws : List Str} {n m : Nat} (h : ∀ x ∈ ws, x.length ≤ m) : (ws.getD n Str.empty).length ≤ m := by
  by_cases hn : n < ws.length
  · rw [List.getD_eq_getElem?_getD, List.getElem?_eq_getElem hn]; exact h _ (List.getElem_mem hn)
  · rw [List.getD_eq_getElem?_getD, List.getElem?_eq_none (by omega)]; exact Nat.zero_le _
theorem lt_all {W d : Addr} {o : Obj} {r : List (Addr × Obj)} (h : W < d ∧ AllLt d r) : ∀ p ∈ (W, o) :: r, p.1 < d := by
  intro p hp
  rcases List.mem_cons.mp hp with rfl | hp
  · exact h.1
  · exact kst_ltOf h.2 p hp
end Mine
end
section
open PySem PySem.W PyProof.Rows PySem.Calls
set_option maxRecDepth 100000
namespace Mine
local macro_rules | `(tactic| omega) => `(tactic| k_extra "om")
set_option maxHeartbeats 4000000 in
theorem own_c (w mean mg mb) (W : Addr) (vs : List Value) (c0 : Nat) (ws : List Str) : ConL w mean mg mb 62 [.ref W] (W, listOf vs.toArray c0) (StrsAre vs ws ∧ ws.length = 5 ∧ ∀ x ∈ ws, x.length ≤ 8) 3 24 (tieOut (ownR ws) 5) := by
  unfold ConL KK Mine.prog TopM; k_with_none; w_top off; k_fill
  intro dp un gd cn cs a' ccd cl outer A₀ base h₀ L m news s Q E B F X N T hk hpre hd hu hret
  obtain ⟨hS, hlen, hle⟩ := hpre
  skip
  k_with "om" => with_reducible first
    | decide
    | exact oU1 (by assumption)
    | exact oU (by assumption) (by decide)
    | exact bA0 (by assumption)
    | exact bL5 (by assumption) (bA5 (by assumption) (by assumption))
    | exact bL5 (by assumption) (bB5 (by assumption) (by assumption) (by assumption) (by assumption))
    | exact b5l (bA5 (by assumption) (by assumption)) (by decide)
    | exact b5l (bB5 (by assumption) (by assumption) (by assumption) (by assumption)) (by decide)
    | exact b5e (bA5 (by assumption) (by assumption)) (by decide)
    | exact b5e (bB5 (by assumption) (by assumption) (by assumption) (by assumption)) (by decide)
    | exact bAn (by assumption)
    | exact bAm (by assumption) (by decide)
    | exact Nat.ne_of_gt (And.left (by assumption))
    | exact Nat.ne_of_lt (And.left (by assumption))
    | exact Nat.ne_of_gt (And.left (And.right (by assumption)))
    | exact Nat.ne_of_lt (And.left (And.right (by assumption)))
  k_with "pyIter ref" => (k_of "j" => (skip; (rename News _ _ _ _ => lN9); have hI0 := ints5 lN9; skip; k_state_short (fun pre ts => TieO (ownR ws) pre.length ts ∧ ts.length = 5) "ties";  skip))
  k_with "pyIter ref" => (k_of "i" => (skip; k_state (fun pre ts => TieI (ownR ws) kPre.length pre.length ts ∧ ts.length = 5) "ties"; skip))
  k_with "state" => first | (with_reducible exact tie_first _) | (with_reducible exact tie_start (by assumption) (by assumption)) | (with_reducible exact tie_up (by assumption) (by assumption) (by simp only [rangeKs_length]; omega)) | (with_reducible exact own_yes1 (by assumption) (by assumption) (by assumption) (by assumption) (by assumption)) | (with_reducible exact own_yes2 (by assumption) (by assumption) (by assumption) (by assumption) (by assumption)) | (with_reducible exact own_no (by assumption) (by assumption) (by assumption) (by assumption) (by assumption) (by assumption)) | (skip; skip; fail "stop")
  k_with "InvEndN" =>
    ((rename News _ _ _ _ => nE'); (try simp only [List.push_toArray] at nE'); (refine kst_end ⟨_, _, _⟩ (by assumption) nE' (by first | exact fun _ h9 => h9 | exact sub_l1 | exact sub_l2 | (refine sub_cons ?_; first | exact fun _ h9 => h9 | exact sub_l1 | exact sub_l2)) (by intro p hp; kst_mem) (by rfl) (by kst_facts) (by kst_all) (by kst_same) (by kst_p)))
  k_with "call ref" =>
    (refine scat_c w mean mg mb _ _ _ _ _ _ _ _ _ _ _ _ _ _ _ _ _ _ _ _ _ _ (by k_asm) (by k_asm) (by k_asm) (by k_asm) (by k_asm) (by first | exact rfl | assumption) (by exact ⟨Nat.le_trans (getD_le hle) (by decide), Nat.le_trans (getD_le hle) (by decide)⟩) (by ktr_room) (by ktr_units) ?_; intro t9 h9 tk9 F9 N9; (try dsimp only); (try k_fold))
  refine wpAny_call ?_
  k_dflt cell_enter
  skip
  k_steps
  skip
  all_goals ((rename News _ _ _ _ => nE'); refine hret _ _ _ _ _ (by assumption) nE' (by exact lt_all (by assumption)) (by refine tie_done (by assumption) ?_ (by assumption); simp only [rangeKs_length]; decide))
  skip
end Mine
end
section
open PySem PySem.W PyProof.Rows PySem.Calls
set_option maxRecDepth 100000
namespace Mine
noncomputable def gapOf (x y : Str) : Int := 2 * if (x.length : Int) - y.length < 0 then -((x.length : Int) - y.length) else (x.length : Int) - y.length
noncomputable def toldR (ws : List Str) (i j : Nat) : Bool := decide ((DD (wAt ws i) (wAt ws j) : Int) = gapOf (wAt ws i) (wAt ws j))
section
variable {ws : List Str} {pre : List Int} {n : Nat} {k kj : Int} {ts : List Int}
theorem told_yes1 (h : TieI (toldR ws) n pre.length ts) (hl : ts.length = 5) (hk : k = 0 + (pre.length : Int)) (hj : kj = 0 + (n : Int))
    (hr : (DD (ws.getD k.toNat Str.empty) (ws.getD kj.toNat Str.empty) : Int) = 2 * if ((ws.getD k.toNat Str.empty).length : Int) - (ws.getD kj.toNat Str.empty).length < 0 then -(((ws.getD k.toNat Str.empty).length : Int) - (ws.getD kj.toNat Str.empty).length) else ((ws.getD k.toNat Str.empty).length : Int) - (ws.getD kj.toNat Str.empty).length) :
    TieI (toldR ws) n (pre ++ [k]).length ((ts.set k.toNat (ts.getD k.toNat 0 + 2 ^ kj.toNat)).set kj.toNat ((ts.set k.toNat (ts.getD k.toNat 0 + 2 ^ kj.toNat)).getD kj.toNat 0 + 2 ^ k.toNat)) ∧ ((ts.set k.toNat (ts.getD k.toNat 0 + 2 ^ kj.toNat)).set kj.toNat ((ts.set k.toNat (ts.getD k.toNat 0 + 2 ^ kj.toNat)).getD kj.toNat 0 + 2 ^ k.toNat)).length = 5 := by
  refine own_yes h hl hk hj ?_
  have e1 : k.toNat = pre.length := by omega
  have e2 : kj.toNat = n := by omega
  rw [e1, e2] at hr
  unfold toldR wAt gapOf; rw [hr]; simp
theorem told_yes2 (h : TieI (toldR ws) n pre.length ts) (hl : ts.length = 5) (hk : k = 0 + (pre.length : Int)) (hj : kj = 0 + (n : Int))
    (hr : (DD (ws.getD kj.toNat Str.empty) (ws.getD k.toNat Str.empty) : Int) = 2 * if ((ws.getD k.toNat Str.empty).length : Int) - (ws.getD kj.toNat Str.empty).length < 0 then -(((ws.getD k.toNat Str.empty).length : Int) - (ws.getD kj.toNat Str.empty).length) else ((ws.getD k.toNat Str.empty).length : Int) - (ws.getD kj.toNat Str.empty).length) :
    TieI (toldR ws) n (pre ++ [k]).length ((ts.set k.toNat (ts.getD k.toNat 0 + 2 ^ kj.toNat)).set kj.toNat ((ts.set k.toNat (ts.getD k.toNat 0 + 2 ^ kj.toNat)).getD kj.toNat 0 + 2 ^ k.toNat)) ∧ ((ts.set k.toNat (ts.getD k.toNat 0 + 2 ^ kj.toNat)).set kj.toNat ((ts.set k.toNat (ts.getD k.toNat 0 + 2 ^ kj.toNat)).getD kj.toNat 0 + 2 ^ k.toNat)).length = 5 :=
  told_yes1 h hl hk hj (by rw [DD_symm]; exact hr)
theorem told_no1 (h : TieI (toldR ws) n pre.length ts) (hl : ts.length = 5) (hk : k = 0 + (pre.length : Int)) (hj : kj = 0 + (n : Int))
    (hr : (DD (ws.getD k.toNat Str.empty) (ws.getD kj.toNat Str.empty) : Int) ≠ 2 * if ((ws.getD k.toNat Str.empty).length : Int) - (ws.getD kj.toNat Str.empty).length < 0 then -(((ws.getD k.toNat Str.empty).length : Int) - (ws.getD kj.toNat Str.empty).length) else ((ws.getD k.toNat Str.empty).length : Int) - (ws.getD kj.toNat Str.empty).length) :
    TieI (toldR ws) n (pre ++ [k]).length ts ∧ ts.length = 5 := by
  refine tie_no h hl ?_
  have e1 : k.toNat = pre.length := by omega
  have e2 : kj.toNat = n := by omega
  rw [e1, e2] at hr
  unfold toldR wAt gapOf; exact decide_eq_false hr
theorem told_no2 (h : TieI (toldR ws) n pre.length ts) (hl : ts.length = 5) (hk : k = 0 + (pre.length : Int)) (hj : kj = 0 + (n : Int))
    (hr : (DD (ws.getD kj.toNat Str.empty) (ws.getD k.toNat Str.empty) : Int) ≠ 2 * if ((ws.getD k.toNat Str.empty).length : Int) - (ws.getD kj.toNat Str.empty).length < 0 then -(((ws.getD k.toNat Str.empty).length : Int) - (ws.getD kj.toNat Str.empty).length) else ((ws.getD k.toNat Str.empty).length : Int) - (ws.getD kj.toNat Str.empty).length) :
    TieI (toldR ws) n (pre ++ [k]).length ts ∧ ts.length = 5 := told_no1 h hl hk hj (by rw [DD_symm]; exact hr)
end
theorem DD_cap {x y : Str} (hx : x.length ≤ 8) (hy : y.length ≤ 8) : DD x y ≤ 32 := by
  have := d_high (c := cc) (cl x) (cl y)
  rw [cl_len, cl_len] at this
  unfold DD; omega
theorem lt_all2 {M W d : Addr} {o o2 : Obj} {r : List (Addr × Obj)} (h : M < d ∧ W < d ∧ AllLt d r) : ∀ p ∈ (M, o) :: (W, o2) :: r, p.1 < d := by
  intro p hp
  rcases List.mem_cons.mp hp with rfl | hp
  · exact h.1
  · exact lt_all h.2 p hp
theorem DD_odd {x y : Str} {P : Prop} (h : ((DD x y : Nat) : Int) ≠ ((DD y x : Nat) : Int)) : P := absurd (congrArg _ (DD_symm x y)) h
theorem DD_odd2 {x y : Str} {P : Prop} (h : ((DD x y : Nat) : Int) ≠ ((DD x y : Nat) : Int)) : P := absurd rfl h
end Mine
end
section
open PySem PySem.W PyProof.Rows PySem.Calls
set_option maxRecDepth 100000
namespace Mine
noncomputable abbrev ConL2 (w : World) (mean : ExcName → Option Value) (mg mb : Str → Option Value) (f : Addr) (vs : List Value) (q q2 : Addr × Obj) (pre : Prop) (dd du : Nat) (R : List Int) : Prop :=
  ∀ (dp un : Nat) (gd : Option (List Code)) (cn : Str) (cs : Scope) (a : Addr) (ccd : Value) (cl : List (Str × Addr)) (outer : List Env) (A₀ : Around) (base h₀ : Heap) (L : Addr) (m : Str → Option Value) (news : List (Addr × Obj)) (s : Shared) (Q E : Value → Shared → Prop),
    Below A₀ base outer h₀ → Fr h₀ L s.heap m → (KK w).In h₀ → News h₀ L s.heap (q :: q2 :: news) → TopM mean mg mb h₀ → cs.kind = .function →
    pre → dp + dd < recursionLimit → un + du < cLine →
    (∀ (D : Addr) (us : List Value) (c : Nat) (h' : Heap) (tk' : Nat), Fr h₀ L h' m → News h₀ L h' ((D, listOf us.toArray c) :: q :: q2 :: news) → (∀ p ∈ q :: q2 :: news, p.1 < D) → IntsAre us R → Q (.ref D) { s with heap := h', toks := tk' }) →
      wpAny (model prog w) (ktrTop dp un gd cn cs L a ccd cl outer) (call (.ref f) vs) Q E s
theorem len_room {x : Str} (h : x.length ≤ 8) : ¬ (x.length : Int) ≥ 2 ^ 63 := by omega
theorem lev_pre {ws : List Str} (hle : ∀ x ∈ ws, x.length ≤ 8) {i j p q : Nat} {e : Int} (h : (p = i ∧ q = j) ∨ (p = j ∧ q = i)) :
    (ws.getD p Str.empty).length ≤ 8 ∧ (ws.getD q Str.empty).length ≤ 8 ∧ (DD (ws.getD p Str.empty) (ws.getD q Str.empty) : Int) - 1 ≤ (DD (ws.getD i Str.empty) (ws.getD j Str.empty) : Int) - 1 + e.fmod 3 ∧ (DD (ws.getD i Str.empty) (ws.getD j Str.empty) : Int) - 1 + e.fmod 3 ≤ 1000 := by
  have h1 := DD_cap (getD_le hle (n := i)) (getD_le hle (n := j))
  have h2 : DD (ws.getD p Str.empty) (ws.getD q Str.empty) = DD (ws.getD i Str.empty) (ws.getD j Str.empty) := by
    rcases h with ⟨rfl, rfl⟩ | ⟨rfl, rfl⟩
    · rfl
    · exact DD_symm _ _
  have h3 := Int.fmod_nonneg_of_pos e (show (0 : Int) < 3 by decide)
  have h4 := Int.fmod_lt_of_pos e (show (0 : Int) < 3 by decide)
  rw [h2]
  exact ⟨getD_le hle, getD_le hle, by omega, by omega⟩
local macro_rules | `(tactic| omega) => `(tactic| k_extra "om")
set_option maxHeartbeats 4000000 in
theorem told_c (w mean mg mb) (M W : Addr) (us vs : List Value) (c0 c1 : Nat) (ws : List Str) (deal : Int) (td : Tok) :
    ConL2 w mean mg mb 69 [.ref M, .ref W, .int deal td] (M, listOf us.toArray c1) (W, listOf vs.toArray c0) (StrsAre us ws ∧ StrsAre vs ws ∧ ws.length = 5 ∧ (∀ x ∈ ws, x.length ≤ 8)) 5 40 (tieOut (toldR ws) 5) := by
  unfold ConL2 KK Mine.prog TopM; k_with_none; w_top off; k_fill
  intro dp un gd cn cs a' ccd cl outer A₀ base h₀ L m news s Q E B F X N T hk hpre hd hu hret
  obtain ⟨hS1, hS, hlen, hle⟩ := hpre
  skip
  k_with "om" => with_reducible first
    | decide
    | exact oU1 (by assumption)
    | exact oU (by assumption) (by decide)
    | exact bA0 (by assumption)
    | exact bL5 (by assumption) (bA5 (by assumption) (by assumption))
    | exact bL5 (by assumption) (bB5 (by assumption) (by assumption) (by assumption) (by assumption))
    | exact b5l (bA5 (by assumption) (by assumption)) (by decide)
    | exact b5l (bB5 (by assumption) (by assumption) (by assumption) (by assumption)) (by decide)
    | exact b5e (bA5 (by assumption) (by assumption)) (by decide)
    | exact b5e (bB5 (by assumption) (by assumption) (by assumption) (by assumption)) (by decide)
    | exact bAn (by assumption)
    | exact bAm (by assumption) (by decide)
    | exact Nat.ne_of_gt (And.left (by assumption))
    | exact Nat.ne_of_lt (And.left (by assumption))
    | exact Nat.ne_of_gt (And.left (And.right (by assumption)))
    | exact Nat.ne_of_lt (And.left (And.right (by assumption)))
  k_with "pyIter ref" => (k_of "j" => (skip; (rename News _ _ _ _ => lN9); have hI0 := ints5 lN9; k_state_short (fun pre ts => TieO (toldR ws) pre.length ts ∧ ts.length = 5) "ties"))
  k_with "pyIter ref" => (k_of "i" => (skip; k_state (fun pre ts => TieI (toldR ws) kPre.length pre.length ts ∧ ts.length = 5) "ties"))
  k_with "state" => first | (with_reducible exact tie_first _) | (with_reducible exact tie_start (by assumption) (by assumption)) | (with_reducible exact tie_up (by assumption) (by assumption) (by simp only [rangeKs_length]; omega)) | (with_reducible exact told_yes1 (by assumption) (by assumption) (by assumption) (by assumption) (by assumption)) | (with_reducible exact told_yes2 (by assumption) (by assumption) (by assumption) (by assumption) (by assumption)) | (with_reducible exact told_no1 (by assumption) (by assumption) (by assumption) (by assumption) (by assumption)) | (with_reducible exact told_no2 (by assumption) (by assumption) (by assumption) (by assumption) (by assumption)) | (skip; fail "stop")
  k_with "InvEndN" =>
    ((rename News _ _ _ _ => nE'); (try simp only [List.push_toArray] at nE'); (refine kst_end ⟨_, _, _⟩ (by assumption) nE' (by first | exact fun _ h9 => h9 | exact sub_l1 | exact sub_l2 | (refine sub_cons ?_; first | exact fun _ h9 => h9 | exact sub_l1 | exact sub_l2)) (by intro p hp; kst_mem) (by rfl) (by kst_facts) (by kst_all) (by kst_same) (by kst_p)))
  k_with "call ref" =>
    first
                     | (refine far_c w mean mg mb _ _ _ _ _ _ _ _ _ _ _ _ _ _ _ _ _ _ _ _ _ _ (by k_asm) (by k_asm) (by k_asm) (by k_asm) (by k_asm) (by first | exact rfl | assumption) (by exact ⟨getD_le hle, getD_le hle⟩) (by ktr_room) (by ktr_units) ?_; intro t9 h9 tk9 F9 N9; (try dsimp only); (try k_fold))
                     | (refine lev_c w mean mg mb _ _ _ _ _ _ _ _ _ _ _ _ _ _ _ _ _ _ _ _ _ _ _ _ (by k_asm) (by k_asm) (by k_asm) (by k_asm) (by k_asm) (by first | exact rfl | assumption) (by exact lev_pre hle (by first | exact .inl ⟨rfl, rfl⟩ | exact .inr ⟨rfl, rfl⟩)) (by ktr_room) (by ktr_units) ?_; intro t9 h9 tk9 F9 N9; (try dsimp only); (try k_fold))
  k_with "exec Return some" =>
    (with_reducible first | exact DD_odd (by assumption) | exact DD_odd2 (by assumption))
  k_with "call builtin:len" =>
    ((with_reducible show wpAny _ _ (call (Value.builtin "len") [Value.str (List.getD _ _ _) _]) _ _ _); refine P.len_str (by exact len_room (getD_le hle)) ?_)
  refine wpAny_call ?_
  k_dflt cell_enter
  skip
  k_steps
  skip
  all_goals ((rename News _ _ _ _ => nE'); refine hret _ _ _ _ _ (by assumption) nE' (by exact lt_all2 (by assumption)) (by refine tie_done (by assumption) ?_ (by assumption); simp only [rangeKs_length]; decide))
  skip
end Mine
end
section
open PySem PySem.W PyProof.Rows PySem.Calls
set_option maxRecDepth 100000
namespace Mine
theorem allLt_up {a : Addr} {l : List (Addr × Obj)} (h : AllLt a l) : AllLt (a + 1) l := allLt_of fun p hp => Nat.lt_succ_of_lt (kst_ltOf h p hp)
section
variable {prog : Program} {w : World} {A : Around} {E : Value → Shared → Prop} {s : Shared} {env : Env} {h₀ : Heap} {x : Str} {px : Pos} {body : List Stmt} {Q : Flow → Shared → Prop}
theorem letGo_name {it v : Value} {Qu : Unit → Shared → Prop} {M : Model} (h : Qu () s) : wpAny M A (letOwnedTupleGo (.Name x px) it v) Qu E s := wpAny_pure h
/-- for x in range(a, b), x not a plain local (a cell): an invariant over the whole state -/
theorem kt_range {σ : Type} {r : Addr} {a₀ b₀ : Int} {t₀ u₀ v₀ : Tok} {n : Nat} {m₀ : Str → Option Value} (Led : σ → List (Addr × Obj)) (ps : σ → List (Str × Value)) (Facts : σ → Prop) (stored : List Str) (P : List Int → σ → Prop) (c₀ : σ)
    (hh : A.handled = none) (hr : IsRange s.heap r a₀ b₀ 1 t₀ u₀ v₀) (hsmall : Builtin.Range.small a₀ b₀ 1 = true) (hn : Builtin.Range.rangeSize a₀ b₀ 1 = (n : Int)) (F : Fr h₀ env.locals s.heap m₀) (N : News h₀ env.locals s.heap (Led c₀)) (hf : Facts c₀) (hk : ∀ p ∈ ps c₀, m₀ p.1 = some p.2) (hp : P [] c₀)
    (hadr : ∀ c, (Led c).map (·.1) = (Led c₀).map (·.1))
    (turn : ∀ (c : σ) (pre : List Int) (k : Int) t (u : Str → Option Value) h tk own, k = a₀ + (pre.length : Int) → pre.length < n → OwnOff own ((Led c₀).map (·.1)) → Facts c → P pre c →
      Fr h₀ env.locals h (fun y => if y = x then u y else kstB (fun z => if stored.contains z then u z else m₀ z) (ps c) y) → News h₀ env.locals h (Led c ++ own) →
      wpAny (model prog w) A (assign (.Name x px) env (.int k t)) (fun _ s₃ => wpAny (model prog w) A (execs body env) (InvPostN h₀ env.locals (KstS Led ps Facts x stored m₀ P (pre ++ [k])) own ((Led c₀).map (·.1)) { s with heap := h, toks := tk } Q) E s₃) E { s with heap := h, toks := tk })
    (done : ∀ (c : σ) (u : Str → Option Value) h tk, Facts c → P (rangeKs a₀ n) c → Fr h₀ env.locals h (fun y => if y = x then u y else kstB (fun z => if stored.contains z then u z else m₀ z) (ps c) y) → News h₀ env.locals h (Led c) → Q .next { s with heap := h, toks := tk }) :
    wpAny (model prog w) A (pyIter (.ref r)) (fun it s₂ => TurnsAt prog w A h₀ env (.Name x px) body Q E it s₂) E s := by
  refine wpAny_pyIter_range hr hsmall ?_
  have W : Walks prog w A s.heap.objs.size [s.heap.objs.size] [s.heap.objs.size] n (fun i v => i < n ∧ ∃ t, v = .int (a₀ + i * 1) t)
      (fun i h => IsRangeIter h s.heap.objs.size (a₀ + (i : Nat) * 1) ((n : Int) - (i : Nat)) 1) := (Walks.range hh _ a₀ 1 n).bound
  have offI : ∀ (h : Heap) (l : List (Addr × Obj)), News h₀ env.locals h l → True := fun _ _ _ => trivial
  refine ⟨s.heap.objs.size, _, _, n, _, _, _, m₀, Led c₀, fun i m nx => KstS Led ps Facts x stored m₀ P ((rangeKs a₀ n).take i) m nx, rfl, KTurns.ofWalks W (fun i v s Q E _ q => letGo_name q), ?_, ?_, ?_, (by show IsRangeIter _ _ _ _ _; rw [hn]; simpa using Heap.get?_push_size _ rfl), F.push _, (fun p hp => ⟨Heap.get?_push_of_some _ (N p hp).1, (N p hp).2⟩), ⟨c₀, rfl, hf, hk, fun _ _ _ _ => rfl, by simpa using hp⟩, ?_, ?_⟩
  · intro hm
    exact absurd F.ns.lt ((List.mem_singleton.mp hm) ▸ Nat.lt_irrefl _)
  · intro b hb
    rw [List.mem_singleton.mp hb]
    exact next_is_new F
  · intro p hp hI
    exact absurd (Heap.lt_size (N p hp).1) ((List.mem_singleton.mp hI) ▸ Nat.lt_irrefl _)
  · rintro i v m₁ news₁ h tk own hi ⟨_, t, rfl⟩ ⟨c, rfl, hf', h1, h2, hp'⟩ hoff hown _ _ _ F₁ N₁
    have e1 : a₀ + (i : Int) * 1 = a₀ + (i : Int) := by omega
    rw [e1]
    have hk' : (rangeKs a₀ n)[i]? = some (a₀ + (i : Int)) := by simp [rangeKs, hi]
    have hs : (rangeKs a₀ n).take (i + 1) = (rangeKs a₀ n).take i ++ [a₀ + (i : Int)] := by simp [List.take_add_one, hk']
    have hlen : ((rangeKs a₀ n).take i).length = i := by rw [List.length_take, rangeKs_length]; omega
    have hsep : OwnOff own ((Led c₀).map (·.1)) := by
      rw [← hadr c]
      intro p hp b hb e
      obtain ⟨q, hq, rfl⟩ := List.mem_map.mp hb
      exact hoff q hq (e ▸ hown p hp)
    have N₂ : News h₀ env.locals h (Led c ++ own) := fun p hp => N₁ p ((List.mem_append.mp hp).elim (fun h => List.mem_append.mpr (.inr h)) fun h => List.mem_append.mpr (.inl h))
    have T := turn c ((rangeKs a₀ n).take i) (a₀ + (i : Int)) t m₁ h tk own (by rw [hlen]) (by rw [hlen]; exact hi) hsep hf' hp' (kst_frOut h1 h2 F₁) N₂
    have fin : ∀ s₂, InvEndN h₀ env.locals (KstS Led ps Facts x stored m₀ P ((rangeKs a₀ n).take i ++ [a₀ + (i : Int)])) own ((Led c₀).map (·.1)) { s with heap := h, toks := tk } s₂ →
        LoopStepU h₀ env.locals [s.heap.objs.size] own (fun m nx => KstS Led ps Facts x stored m₀ P ((rangeKs a₀ n).take (i + 1)) m nx) { s with heap := h, toks := tk } .next s₂ := by
      rintro s₂ ⟨h', tk', m', news', nx, e, F', N', hn', ho, ha, hm⟩
      refine ⟨rfl, h', tk', m', nx, e, F', fun p hp => N' p ((List.mem_append.mp hp).elim (ho p) (hn' p)), fun p hp hq => ?_, ?_⟩
      · have h1' : p.1 ∈ nx.map (·.1) := List.mem_map.mpr ⟨p, hp, rfl⟩
        rw [ha, ← hadr c] at h1'
        obtain ⟨q, hq1, hq2⟩ := List.mem_map.mp h1'
        exact hoff q hq1 (by rw [hq2]; exact hq)
      · rw [hs]; exact hm
    refine wpAny_mono T (fun _ s₃ h₃ => wpAny_mono h₃ (fun f s₂ p => ?_) fun _ _ e => e) fun _ _ e => e
    cases f with
    | ret v => exact .ret p
    | brk => exact .brk p
    | next => exact .next (fin s₂ p)
    | cont => exact .cont (fin s₂ p)
  · rintro h' tk m' news' F' N' _ ⟨c, rfl, hf', h1, h2, hp'⟩
    have hl : (rangeKs a₀ n).take n = rangeKs a₀ n := List.take_of_length_le (Nat.le_of_eq (rangeKs_length _ _))
    rw [hl] at hp'
    exact done c m' h' tk hf' hp' (kst_frOut h1 h2 F') N'
end
end Mine
end
section
open PySem PySem.W PyProof.Rows PySem.Calls
set_option maxRecDepth 100000
namespace Mine
structure ShSig where
  om : Obj
  fs : List Bool
  nf : Nat
  wv : List Value
  ws : List Int
  nw : Nat
  bv : List Value
  bs : List Int
  nb : Nat
noncomputable abbrev bvals (fs : List Bool) : List Value := fs.map Value.bool
noncomputable abbrev shLed (pb pw pf pm : Addr) (cst : List (Addr × Obj)) (c : ShSig) : List (Addr × Obj) := (pb, listOf c.bv.toArray c.nb) :: (pw, listOf c.wv.toArray c.nw) :: (pf, listOf (bvals c.fs).toArray c.nf) :: (pm, c.om) :: cst
noncomputable abbrev shFacts (c : ShSig) : Prop := IntsAre c.wv c.ws ∧ IntsAre c.bv c.bs ∧ ∃ v, c.om.data = .cell v
noncomputable def memB (m k : Int) : Bool := decide (Builtin.bitAnd (m.fdiv (2 ^ k.toNat)) 1 ≠ 0)
noncomputable def memG (m : Int) (l : List Int) (k : Int) : List Int := if memB m k then l ++ [k] else l
noncomputable def memL (m : Int) : List Int := (rangeKs 0 5).foldl (memG m) []
noncomputable def memT (m : Int) : Int := (memL m).getLastD 0
noncomputable def maxL (ns : List Int) : Int := ns.foldl max (ns.headD 0)
noncomputable def stepB (ts : List Int) (fs : List Bool) (m : Int) : Bool := fs.getD (m - 2 ^ (memT m).toNat).toNat false && (Builtin.bitAnd (ts.getD (memT m).toNat 0) (m - 2 ^ (memT m).toNat) == 0)
noncomputable def stepV (b : Bool) (ws : List Int) (m : Int) : Int := if b then ((memL m).length : Int) else maxL ((memL m).map fun i => ws.getD (m - 2 ^ i.toNat).toNat 0)
noncomputable def stepM (bs : List Int) (v m : Int) : List Int := bs.set v.toNat (if ((memL m).length : Int) > bs.getD v.toNat 0 then ((memL m).length : Int) else bs.getD v.toNat 0)
noncomputable def shSt (ts : List Int) : Nat → List Bool × List Int × List Int
  | 0 => ([true], [0], [0, 0, 0, 0, 0, 0])
  | n + 1 => (fun (fs, ws, bs) => (fun b => (fun v => (fs ++ [b], ws ++ [v], stepM bs v (1 + (n : Int)))) (stepV b ws (1 + (n : Int)))) (stepB ts fs (1 + (n : Int)))) (shSt ts n)
structure ShP (ts : List Int) (n : Nat) (fs : List Bool) (ws bs : List Int) : Prop where
  st : shSt ts n = (fs, ws, bs)
  lf : fs.length = n + 1
  lw : ws.length = n + 1
  lb : bs.length = 6
  rng : ∀ x ∈ ws, 0 ≤ x ∧ x ≤ 5
noncomputable abbrev shWord (ts : List Int) (pre : List Int) (c : ShSig) : Prop := ShP ts pre.length c.fs c.ws c.bs
theorem ints1 {a : Int} {t : Tok} : IntsAre [.int a t] [a] := .cons _ _ .nil
theorem ints6 {a b c d e f : Int} {t1 t2 t3 t4 t5 t6 : Tok} : IntsAre [.int a t1, .int b t2, .int c t3, .int d t4, .int e t5, .int f t6] [a, b, c, d, e, f] :=
  .cons _ _ (.cons _ _ (.cons _ _ (.cons _ _ (.cons _ _ (.cons _ _ .nil)))))
theorem sh_first (ts : List Int) : ShP ts ([] : List Int).length [true] [0] [0, 0, 0, 0, 0, 0] := ⟨rfl, rfl, rfl, rfl, by decide⟩
/-- contract of a def that is handed one list and hands back a new list of ints -/
noncomputable abbrev ConS (w : World) (mean : ExcName → Option Value) (mg mb : Str → Option Value) (f : Addr) (vs : List Value) (q : Addr × Obj) (pre : Prop) (dd du : Nat) (R : List Int) : Prop :=
  ∀ (dp un : Nat) (gd : Option (List Code)) (cn : Str) (cs : Scope) (a : Addr) (ccd : Value) (cl : List (Str × Addr)) (outer : List Env) (A₀ : Around) (base h₀ : Heap) (L : Addr) (m : Str → Option Value) (news : List (Addr × Obj)) (s : Shared) (Q E : Value → Shared → Prop),
    Below A₀ base outer h₀ → Fr h₀ L s.heap m → (KK w).In h₀ → News h₀ L s.heap (q :: news) → TopM mean mg mb h₀ → cs.kind = .function →
    pre → dp + dd < recursionLimit → un + du < cLine →
    (∀ (D : Addr) (us : List Value) (c : Nat) (h' : Heap) (tk' : Nat), Fr h₀ L h' m → News h₀ L h' ((D, listOf us.toArray c) :: q :: news) → LCg.Off1 D (q :: news) → IntsAre us R → Q (.ref D) { s with heap := h', toks := tk' }) →
      wpAny (model prog w) (ktrTop dp un gd cn cs L a ccd cl outer) (call (.ref f) vs) Q E s
theorem sub_ret {a : Addr × Obj} {b c d e f g h : Addr × Obj} {l : List (Addr × Obj)} : ∀ p ∈ a :: l, p ∈ a :: b :: c :: d :: e :: f :: g :: h :: l := fun p hp => by
  rcases List.mem_cons.mp hp with rfl | hp
  · exact .head _
  · exact .tail _ (.tail _ (.tail _ (.tail _ (.tail _ (.tail _ (.tail _ (.tail _ hp)))))))
section
variable {prog : Program} {w : World} {A : Around} {E : Value → Shared → Prop} {s : Shared} {env : Env} {h₀ : Heap} {px : Pos} {body : List Stmt} {Q : Flow → Shared → Prop}
theorem sh_loop {r pb pw pf pm : Addr} {cst : List (Addr × Obj)} {om : Obj} {t1 t2 t3 t4 t5 t6 t7 : Tok} {nf nw nb : Nat} {vm : Option Value} {t₀ u₀ v₀ : Tok} {m₀ : Str → Option Value} (ts : List Int)
    (hh : A.handled = none) (hr : IsRange s.heap r 1 32 1 t₀ u₀ v₀) (F : Fr h₀ env.locals s.heap m₀)
    (N : News h₀ env.locals s.heap ((pb, listOf #[.int 0 t1, .int 0 t2, .int 0 t3, .int 0 t4, .int 0 t5, .int 0 t6] nb) :: (pw, listOf #[.int 0 t7] nw) :: (pf, listOf #[.bool true] nf) :: (pm, om) :: cst)) (hm : om.data = .cell vm)
    (turn : ∀ (fs : List Bool) (nf : Nat) (wv : List Value) (ws : List Int) (nw : Nat) (bv : List Value) (bs : List Int) (nb : Nat) (om : Obj) (vm : Option Value) (pre : List Int) (k : Int) t (u : Str → Option Value) h tk own, k = 1 + (pre.length : Int) → pre.length < 31 →
      OwnOff own (pb :: pw :: pf :: pm :: cst.map (·.1)) → IntsAre wv ws → IntsAre bv bs → om.data = .cell vm → ShP ts pre.length fs ws bs →
      Fr h₀ env.locals h (fun y => if y = Str.ofString "mask" then u y else if [Str.ofString "members", Str.ofString "rest"].contains y then u y else m₀ y) →
      News h₀ env.locals h ((pb, listOf bv.toArray nb) :: (pw, listOf wv.toArray nw) :: (pf, listOf (bvals fs).toArray nf) :: (pm, om) :: (cst ++ own)) →
      wpAny (model prog w) A (assign (.Name (Str.ofString "mask") px) env (.int k t)) (fun _ s₃ => wpAny (model prog w) A (execs body env) (InvPostN h₀ env.locals (KstS (shLed pb pw pf pm cst) (fun _ => []) shFacts (Str.ofString "mask") [Str.ofString "members", Str.ofString "rest"] m₀ (shWord ts) (pre ++ [k])) own (pb :: pw :: pf :: pm :: cst.map (·.1)) { s with heap := h, toks := tk } Q) E s₃) E { s with heap := h, toks := tk })
    (done : ∀ (fs : List Bool) (nf : Nat) (wv : List Value) (ws : List Int) (nw : Nat) (bv : List Value) (bs : List Int) (nb : Nat) (om : Obj) (vm : Option Value) (u : Str → Option Value) h tk, IntsAre wv ws → IntsAre bv bs → om.data = .cell vm → ShP ts 31 fs ws bs →
      Fr h₀ env.locals h (fun y => if y = Str.ofString "mask" then u y else if [Str.ofString "members", Str.ofString "rest"].contains y then u y else m₀ y) →
      News h₀ env.locals h ((pb, listOf bv.toArray nb) :: (pw, listOf wv.toArray nw) :: (pf, listOf (bvals fs).toArray nf) :: (pm, om) :: cst) → Q .next { s with heap := h, toks := tk }) :
    wpAny (model prog w) A (pyIter (.ref r)) (fun it s₂ => TurnsAt prog w A h₀ env (.Name (Str.ofString "mask") px) body Q E it s₂) E s :=
  kt_range (n := 31) (shLed pb pw pf pm cst) (fun _ => []) shFacts [Str.ofString "members", Str.ofString "rest"] (shWord ts) ⟨om, [true], nf, [.int 0 t7], [0], nw, [.int 0 t1, .int 0 t2, .int 0 t3, .int 0 t4, .int 0 t5, .int 0 t6], [0, 0, 0, 0, 0, 0], nb⟩
    hh hr (by decide) (by decide) F N ⟨ints1, ints6, _, hm⟩ (List.forall_mem_nil _) (sh_first ts) (fun _ => rfl)
    (fun c pre k t u h tk own h1 h2 h3 h4 h5 F' N' => by
      obtain ⟨i1, i2, v, hv⟩ := h4
      exact turn c.fs c.nf c.wv c.ws c.nw c.bv c.bs c.nb c.om v pre k t u h tk own h1 h2 h3 i1 i2 hv h5 F' N')
    (fun c u h tk h4 h5 F' N' => by
      obtain ⟨i1, i2, v, hv⟩ := h4
      exact done c.fs c.nf c.wv c.ws c.nw c.bv c.bs c.nb c.om v u h tk i1 i2 hv (by have h5' : ShP ts (rangeKs 1 31).length c.fs c.ws c.bs := h5; rw [rangeKs_length] at h5'; exact h5') F' N')
end
theorem mem_yes {m k : Int} {l : List Int} (h : Builtin.bitAnd (m.fdiv (2 ^ k.toNat)) 1 ≠ 0) : memG m l k = l ++ [k] := by
  have e : memB m k = true := decide_eq_true h
  unfold memG; rw [if_pos e]
theorem mem_no {m k : Int} {l : List Int} (h : Builtin.bitAnd (m.fdiv (2 ^ k.toNat)) 1 = 0) : memG m l k = l := by
  have e : ¬ memB m k = true := by unfold memB; rw [decide_eq_true_iff]; exact fun h' => h' h
  unfold memG; rw [if_neg e]
noncomputable def posG (l : List Int) (a : Int) : List Int := if a > 0 then l ++ [a] else l
noncomputable def posL (gs : List Int) : List Int := gs.foldl posG []
theorem posG_grows : KPfGrows posG := by
  intro l k
  unfold posG
  split
  · simp
  · omega
theorem pos_yes {l : List Int} {a : Int} (h : a > 0) : posG l a = l ++ [a] := if_pos h
theorem pos_no {l : List Int} {a : Int} (h : ¬ a > 0) : posG l a = l := if_neg h
noncomputable def gainAt (bs : List Int) (k : Int) : Int := maxL (bs.take (k + 1).toNat) - maxL (bs.take k.toNat)
noncomputable def gainsL (bs : List Int) : List Int := (rangeKs 1 5).map (gainAt bs)
noncomputable def shapeL (ts : List Int) : List Int := posL (gainsL (shSt ts 31).2.2)
theorem shape_done {ts fs ws bs} (h : ShP ts 31 fs ws bs) : shapeL ts = posL (gainsL bs) := by unfold shapeL; rw [h.st]
theorem memG_grows (m : Int) : KPfGrows (memG m) := by
  intro l k
  unfold memG
  split
  · simp
  · omega
section
variable {prog : Program} {w : World} {A : Around} {h₀ : Heap} {L : Addr} {m : Str → Option Value} {env : Env} {ct elt : Expr} {x : Str} {scope : Scope} {cl : List (Str × Addr)} {s : Shared} {S : List (Addr × Obj) → Prop} {Fin : List Value → List (Addr × Obj) → Prop} {news : List (Addr × Obj)}
theorem mem_range (mask : Int)
    (turn : ∀ k t I oI C oC D m₂ ys l h tk (E' : Value → Shared → Prop), 0 ≤ k → k < 5 → IntsAre ys l → LCg.NsObj oC m₂ → m₂ x = some (.int k t) → Fr h₀ L h m → News h₀ L h ((I, oI) :: (C, oC) :: (D, LCg.lst ys) :: news) → LCg.Off3 I C D news → ((@Ne Nat I C) ∧ (@Ne Nat I D) ∧ (@Ne Nat C D)) → KPfMark →
      wpAny (model prog w) A (isTrue ct (compEnvC scope cl C env) (eval ct (compEnvC scope cl C env))) (fun b s' => if b = true then wpAny (model prog w) A (eval elt (compEnvC scope cl C env)) (LCg.CompEnd h₀ L m { s with heap := h, toks := tk } I oI C oC D (LCg.lst ys) S (fun y news' => KCiEl news l (memG mask l k) y news')) E' s'
        else LCg.CompEnd h₀ L m { s with heap := h, toks := tk } I oI C oC D (LCg.lst ys) S (fun _ news' => KCiNo news l (memG mask l k) news') Value.none s') E' { s with heap := h, toks := tk })
    (fin : KPfDone (∀ ys, IntsAre ys (memL mask) → ys.length ≤ 5 → Fin ys news)) : LCt.CompRestT prog w A h₀ L m env ct elt x scope cl s S (fun i v => ∃ t, v = .int (0 + (i : Int)) t) Fin 5 0 [] news :=
  kci_range (memG mask) (fun k t I oI C oC D m₂ ys l h tk E' h1 h2 => turn k t I oI C oC D m₂ ys l h tk E' h1 (by omega)) fin (memG_grows mask)
end

theorem memT_def (m : Int) : memT m = (memL m).getLastD 0 := rfl
structure MemOK (m : Int) : Prop where
  ne : 0 < (memL m).length
  le : (memL m).length ≤ 5
  top0 : 0 ≤ memT m
  top5 : memT m < 5
  rest0 : 0 ≤ m - 2 ^ (memT m).toNat
  rest1 : m - 2 ^ (memT m).toNat < m
  each : ∀ i ∈ memL m, 0 ≤ i ∧ i < 5 ∧ 0 ≤ m - 2 ^ i.toNat ∧ m - 2 ^ i.toNat < m
theorem mem_okN : ∀ n : Nat, n < 32 → 1 ≤ n → 0 < (memL n).length ∧ (memL n).length ≤ 5 ∧ 0 ≤ memT n ∧ memT n < 5 ∧ 0 ≤ (n : Int) - 2 ^ (memT n).toNat ∧ (n : Int) - 2 ^ (memT n).toNat < n ∧
    ∀ i ∈ memL n, 0 ≤ i ∧ i < 5 ∧ 0 ≤ (n : Int) - 2 ^ i.toNat ∧ (n : Int) - 2 ^ i.toNat < n := by decide +kernel
theorem mem_ok {m : Int} {n : Nat} (h : m = 1 + (n : Int)) (hn : n < 31) : MemOK m := by
  have e : m = ((n + 1 : Nat) : Int) := by omega
  obtain ⟨h1, h2, h3, h4, h5, h6, h7⟩ := mem_okN (n + 1) (by omega) (by omega)
  rw [e]
  exact ⟨h1, h2, h3, h4, h5, h6, h7⟩
theorem foldl_max_le (l : List Int) : ∀ a, a ≤ l.foldl max a ∧ (∀ x ∈ l, x ≤ l.foldl max a) ∧ (l.foldl max a = a ∨ l.foldl max a ∈ l) := by
  induction l with
  | nil => intro a; simp
  | cons b l ih =>
    intro a
    obtain ⟨h1, h2, h3⟩ := ih (max a b)
    simp only [List.foldl_cons, List.mem_cons, forall_eq_or_imp]
    refine ⟨by omega, ⟨by omega, h2⟩, ?_⟩
    rcases h3 with h3 | h3
    · rw [h3]
      by_cases h : a ≤ b
      · exact .inr (.inl (by omega))
      · exact .inl (by omega)
    · exact .inr (.inr h3)
theorem maxL_eq {ns : List Int} {M : Int} (h1 : M ∈ ns) (h2 : ∀ a, a ∈ ns → a ≤ M) : M = maxL ns := by
  obtain ⟨g1, g2, g3⟩ := foldl_max_le ns (ns.headD 0)
  have hm : maxL ns ∈ ns := by
    unfold maxL
    rcases g3 with g3 | g3
    · rw [g3]
      cases ns with
      | nil => cases h1
      | cons a r => exact List.mem_cons_self
    · exact g3
  exact Int.le_antisymm (g2 M h1) (h2 _ hm)
theorem maxL_rng {ms ws : List Int} {f : Int → Nat} (hr : ∀ x ∈ ws, 0 ≤ x ∧ x ≤ 5) : 0 ≤ maxL (ms.map fun i => ws.getD (f i) 0) ∧ maxL (ms.map fun i => ws.getD (f i) 0) ≤ 5 := by
  have hg : ∀ n, 0 ≤ ws.getD n 0 ∧ ws.getD n 0 ≤ 5 := by
    intro n
    by_cases hn : n < ws.length
    · rw [List.getD_eq_getElem?_getD, List.getElem?_eq_getElem hn]; exact hr _ (List.getElem_mem hn)
    · rw [List.getD_eq_getElem?_getD, List.getElem?_eq_none (by omega)]; exact ⟨Int.le_refl 0, by decide⟩
  cases ms with
  | nil => exact ⟨Int.le_refl 0, show (0 : Int) ≤ 5 by decide⟩
  | cons a r =>
    obtain ⟨g1, g2, g3⟩ := foldl_max_le ((a :: r).map fun i => ws.getD (f i) 0) (((a :: r).map fun i => ws.getD (f i) 0).headD 0)
    have hm : maxL ((a :: r).map fun i => ws.getD (f i) 0) ∈ (a :: r).map fun i => ws.getD (f i) 0 := by
      unfold maxL
      rcases g3 with g3 | g3
      · rw [g3]; exact List.mem_cons_self
      · exact g3
    obtain ⟨i, _, hi⟩ := List.mem_map.mp hm
    rw [← hi]; exact hg _
theorem shP_step {ts : List Int} {pre : List Int} {m : Int} {fs : List Bool} {ws bs bs' : List Int} {b : Bool} {v : Int} (hp : ShP ts pre.length fs ws bs) (hk : m = 1 + (pre.length : Int)) (hn : pre.length < 31)
    (hb : b = stepB ts fs m) (hv : v = stepV b ws m) (hs : bs' = stepM bs v m) : ShP ts (pre ++ [m]).length (fs ++ [b]) (ws ++ [v]) bs' := by
  subst hs
  have ok := mem_ok hk hn
  have hl : (pre ++ [m]).length = pre.length + 1 := by simp
  refine ⟨?_, ?_, ?_, ?_, ?_⟩
  · rw [hl, shSt, hp.st, ← hk]; subst hv; subst hb; rfl
  · rw [hl, List.length_append, hp.lf]; rfl
  · rw [hl, List.length_append, hp.lw]; rfl
  · rw [stepM, List.length_set]; exact hp.lb
  · intro x hx
    rcases List.mem_append.mp hx with hx | hx
    · exact hp.rng x hx
    · rw [List.mem_singleton.mp hx, hv, stepV]
      split
      · have := ok.le; omega
      · exact maxL_rng hp.rng
theorem sh_b1 {ts fs m} (h : List.getD fs (m - 2 ^ (memT m).toNat).toNat false = true) : (Builtin.bitAnd (ts.getD (memT m).toNat 0) (m - 2 ^ (memT m).toNat) == 0) = stepB ts fs m := by rw [stepB, h, Bool.true_and]
theorem sh_b3 {ts fs m} (h : List.getD fs (m - 2 ^ (memT m).toNat).toNat false = false) : List.getD fs (m - 2 ^ (memT m).toNat).toNat false = stepB ts fs m := by rw [stepB, h, Bool.false_and]
theorem sh_v1 {x : Int} {ws m} (h : x = 0) : ((memL m).length : Int) = stepV (x == 0) ws m := by rw [h]; rfl
theorem sh_v2 {x : Int} {ws m} (h : x ≠ 0) : maxL ((memL m).map fun i => ws.getD (m - 2 ^ i.toNat).toNat 0) = stepV (x == 0) ws m := by
  have e : (x == 0) = false := by simp [h]
  rw [e]; rfl
theorem sh_v3 {b : Bool} {ws m} (h : b = false) : maxL ((memL m).map fun i => ws.getD (m - 2 ^ i.toNat).toNat 0) = stepV b ws m := by rw [h]; rfl
theorem sh_end {h₀ : Heap} {pb pw pf pm : Addr} {cst own news' : List (Addr × Obj)} {m₀ : Str → Option Value} {ts pre : List Int} {k : Int} {adr : List Addr} {L : Addr} {m' : Str → Option Value} {s₁ : Shared} {h' : Heap} {tk : Nat}
    {fs : List Bool} {ws bs' : List Int} {wv bv' : List Value} {b : Bool} {v : Int} {tv : Tok} {nb nw nf : Nat} {om : Obj} {vm : Option Value}
    (F : Fr h₀ L h' m') (N : News h₀ L h' news') (mb : (pb, listOf bv'.toArray nb) ∈ news') (mw : (pw, listOf (wv.toArray.push (.int v tv)) nw) ∈ news') (mf : (pf, listOf ((bvals fs).toArray.push (.bool b)) nf) ∈ news') (mm : (pm, om) ∈ news')
    (hc : ∀ p ∈ cst, p ∈ news') (ho : ∀ p ∈ own, p ∈ news') (ha : pb :: pw :: pf :: pm :: cst.map (·.1) = adr) (hm : om.data = .cell vm) (iw : IntsAre wv ws) (ib : IntsAre bv' bs')
    (hr : ∀ z, z ≠ Str.ofString "mask" → [Str.ofString "members", Str.ofString "rest"].contains z = false → m' z = m₀ z) (hp : ShP ts (pre ++ [k]).length (fs ++ [b]) (ws ++ [v]) bs') :
    InvEndN h₀ L (KstS (shLed pb pw pf pm cst) (fun _ => []) shFacts (Str.ofString "mask") [Str.ofString "members", Str.ofString "rest"] m₀ (shWord ts) (pre ++ [k])) own adr s₁ { s₁ with heap := h', toks := tk } := by
  refine kst_end ⟨om, fs ++ [b], nf, wv ++ [.int v tv], ws ++ [v], nw, bv', bs', nb⟩ F N ?_ ho ha ⟨IntsAre.append iw (.cons _ _ .nil), ib, _, hm⟩ (List.forall_mem_nil _) (fun z h1 _ h3 => hr z h1 h3) hp
  intro p hp'
  have e1 : (wv ++ [Value.int v tv]).toArray = wv.toArray.push (.int v tv) := by simp
  have e2 : (bvals (fs ++ [b])).toArray = (bvals fs).toArray.push (.bool b) := by simp [bvals]
  simp only [shLed, List.mem_cons] at hp'
  rcases hp' with rfl | rfl | rfl | rfl | hp'
  · exact mb
  · rw [e1]; exact mw
  · rw [e2]; exact mf
  · exact mm
  · exact hc p hp'
section
variable {prog : Program} {w : World} {A : Around} {E : Value → Shared → Prop} {s : Shared} {h₀ : Heap} {L l : Addr} {m : Str → Option Value} {news : List (Addr × Obj)} {vs : List Value} {ns : List Int} {Q : Value → Shared → Prop} {value slice : Expr} {c : Nat}
theorem my_max (F : Fr h₀ L s.heap m) (N : News h₀ L s.heap news) (hm : (l, listOf vs.toArray c) ∈ news) (hi : IntsAre vs ns) (hne : 0 < ns.length) (hh : A.handled = none)
    (h : ∀ h' (t : Tok) tk, Fr h₀ L h' m → News h₀ L h' news → Q (.int (maxL ns) t) { s with heap := h', toks := tk }) : wpAny (model prog w) A (call (.builtin "max") [.ref l]) Q E s :=
  kso_max F N ⟨_, (N _ hm).1, rfl, c, rfl⟩ hi hne hh fun h' M t tk F' N' a b => by rw [maxL_eq a b]; exact h h' t tk F' N'
theorem sub_last {u : Tok} (N : News h₀ L s.heap news) (hm : (l, listOf vs.toArray c) ∈ news) (hi : IntsAre vs ns) (hne : 0 < ns.length) (h : ∀ t, Q (.int (ns.getLastD 0) t) s)
    (hs : subscripted slice false (.ref l) (.int (-1) u) = operate [.ref l, .int (-1) u] (getItem (.ref l) (.int (-1) u)) := by with_unfolding_all rfl) (hg : ∀ r, letTemporaryGo value (.ref l) r = pure () := by intro _; with_unfolding_all rfl) :
    wpAny (model prog w) A (subscriptTail value slice (.ref l) (.int (-1) u)) Q E s := by
  have e := hi.length
  have hlt : ns.length - 1 < ns.length := by omega
  obtain ⟨t, ht⟩ := hi.get (ns.length - 1) (ns[ns.length - 1]) (List.getElem?_eq_getElem hlt)
  refine kim_back N hm rfl rfl (by decide) (by omega) (by decide) ?_ (h t) hs hg
  have e2 : (-1 + (vs.length : Int)).toNat = ns.length - 1 := by omega
  rw [e2, ht]
  congr 2
  rw [List.getLastD_eq_getLast?, List.getLast?_eq_getElem?, List.getElem?_eq_getElem hlt]; rfl
theorem sub_bool {fs : List Bool} {k : Int} {u : Tok} (N : News h₀ L s.heap news) (hm : (l, listOf (bvals fs).toArray c) ∈ news) (h0 : 0 ≤ k) (h1 : k < (fs.length : Int)) (hz : k < 2 ^ 63) (h : Q (.bool (fs.getD k.toNat false)) s)
    (hs : subscripted slice false (.ref l) (.int k u) = operate [.ref l, .int k u] (getItem (.ref l) (.int k u)) := by with_unfolding_all rfl) (hg : ∀ r, letTemporaryGo value (.ref l) r = pure () := by intro _; with_unfolding_all rfl) :
    wpAny (model prog w) A (subscriptTail value slice (.ref l) (.int k u)) Q E s := by
  refine kim_list N hm rfl rfl h0 hz ?_ h hs hg
  have hlt : k.toNat < fs.length := by omega
  rw [List.getElem?_map, List.getElem?_eq_getElem hlt, List.getD_eq_getElem?_getD, List.getElem?_eq_getElem hlt]; rfl
theorem sub_pushed {v : Value} {k : Int} {u : Tok} (N : News h₀ L s.heap news) (hm : (l, listOf (vs.toArray.push v) c) ∈ news) (h0 : k = (vs.length : Int)) (hz : k < 2 ^ 63) (h : Q v s)
    (hs : subscripted slice false (.ref l) (.int k u) = operate [.ref l, .int k u] (getItem (.ref l) (.int k u)) := by with_unfolding_all rfl) (hg : ∀ r, letTemporaryGo value (.ref l) r = pure () := by intro _; with_unfolding_all rfl) :
    wpAny (model prog w) A (subscriptTail value slice (.ref l) (.int k u)) Q E s := by
  have e : listOf (vs.toArray.push v) c = listOf (vs ++ [v]).toArray c := by simp
  rw [e] at hm
  refine kim_list N hm rfl rfl (by omega) hz ?_ h hs hg
  rw [h0, Int.toNat_natCast, List.getElem?_append_right (by simp)]
  simp
theorem sub_int {k : Int} {u : Tok} (N : News h₀ L s.heap news) (hm : (l, listOf vs.toArray c) ∈ news) (hi : IntsAre vs ns) (h0 : 0 ≤ k) (h1 : k < (ns.length : Int)) (hz : k < 2 ^ 63) (h : ∀ t, Q (.int (ns.getD k.toNat 0) t) s)
    (hs : subscripted slice false (.ref l) (.int k u) = operate [.ref l, .int k u] (getItem (.ref l) (.int k u)) := by with_unfolding_all rfl) (hg : ∀ r, letTemporaryGo value (.ref l) r = pure () := by intro _; with_unfolding_all rfl) :
    wpAny (model prog w) A (subscriptTail value slice (.ref l) (.int k u)) Q E s := by
  have hlt : k.toNat < ns.length := by omega
  obtain ⟨t, ht⟩ := hi.get k.toNat (ns[k.toNat]) (List.getElem?_eq_getElem hlt)
  refine kim_list N hm rfl rfl h0 hz ht ?_ hs hg
  have e : ns.getD k.toNat 0 = ns[k.toNat] := by rw [List.getD_eq_getElem?_getD, List.getElem?_eq_getElem hlt]; rfl
  rw [← e]; exact h t
end
end Mine
end
section
open PySem PySem.W PyProof.Rows PySem.Calls
set_option maxRecDepth 100000
namespace Mine
local macro_rules | `(tactic| k_ne) => `(tactic| k_extra "ne")
local macro_rules | `(tactic| omega) => `(tactic| k_extra "om")
set_option maxHeartbeats 4000000 in
theorem shape_c (w mean mg mb) (W : Addr) (vs : List Value) (c0 : Nat) (ts : List Int) :
    ConS w mean mg mb 74 [.ref W] (W, listOf vs.toArray c0) (IntsAre vs ts ∧ ts.length = 5) 3 24 (shapeL ts) := by
  unfold ConS KK Mine.prog TopM; k_with_none; w_top off; k_fill
  intro dp un gd cn cs a' ccd cl outer A₀ base h₀ L m news s Q E B F X N T hk hpre hd hu hret
  obtain ⟨hI, hlen⟩ := hpre
  have hMk9 := kstMark
  skip
  k_with "om" => with_reducible first
    | decide
    | exact oU1 (by assumption)
    | exact oU (by assumption) (by decide)
    | exact sA (by assumption) (by assumption) (by decide)
    | exact sE (by assumption) (by assumption)
    | exact sE (by assumption) (Eq.trans (by assumption) (by assumption))
    | exact Int.lt_trans (And.right (And.right (And.right (by assumption)))) (sA (by assumption) (by assumption) (by decide))
    | exact Int.lt_trans (by assumption) (sA (by assumption) (by assumption) (by decide))
    | exact And.left (by assumption)
    | exact And.left (And.right (by assumption))
    | exact And.left (And.right (And.right (by assumption)))
    | exact sL (by assumption) (by assumption) (by decide)
    | exact sL (Eq.trans (by assumption) (by assumption)) (by assumption) (by decide)
    | exact sF (by assumption) (by assumption) (by assumption)
    | exact sF (by assumption) (by assumption) (And.right (And.right (And.right (by assumption))))
    | exact s5c (by assumption) (by decide)
    | exact bL5 (by assumption) (by assumption)
    | exact s6 (And.right (by assumption)) (by assumption)
    | exact s6 (Int.ofNat_le.mpr (by assumption)) (by assumption)
    | exact sM1 (by assumption) (by assumption)
    | exact sM (by assumption) (by assumption)
    | exact s1k (by assumption)
    | exact s1k1 (s1k (by assumption))
    | exact Nat.le_trans (Nat.le_of_eq (by assumption)) (Nat.le_trans (by assumption) (by decide))
    | exact aNe1 (And.left (by assumption))
    | exact aNe2 (And.left (by assumption))
    | exact aNe3 (And.left (by assumption))
    | exact Nat.ne_of_gt (Nat.lt_succ_self _)
    | exact b5e (by assumption) (by decide)
    | exact b5l (by assumption) (by decide)
    | exact b5e (And.left (And.right (by assumption))) (by decide)
    | exact oNc (by decide)
    | exact Nat.le_trans (Nat.le_of_eq (by assumption)) (by decide)
    | exact Int.lt_of_le_of_lt (And.right (by assumption)) (by decide)
    | exact Nat.ne_of_lt (Nat.lt_succ_self _)
    | exact aNe1 (Nat.lt_succ_self _)
    | exact Ne.symm (aNe1 (Nat.lt_succ_self _))
  k_with "ne" => (refine neN ?_; (try dsimp only); with_reducible first | exact Nat.ne_of_lt (by assumption) | exact Nat.ne_of_gt (by assumption) | exact (And.left (by assumption)) | exact (And.left (And.right (by assumption))) | exact (And.left (And.right (And.right (by assumption)))) | exact (And.left (And.right (And.right (And.right (by assumption))))) | exact (And.left (And.right (And.right (And.right (And.right (by assumption)))))) | exact (And.left (And.right (And.right (And.right (And.right (And.right (by assumption))))))) | exact (And.left (And.right (And.right (And.right (And.right (And.right (And.right (by assumption)))))))) | exact Ne.symm (And.left (by assumption)) | exact Ne.symm (And.left (And.right (by assumption))) | exact Ne.symm (And.left (And.right (And.right (by assumption)))) | exact Ne.symm (And.left (And.right (And.right (And.right (by assumption))))) | exact Ne.symm (And.left (And.right (And.right (And.right (And.right (by assumption)))))) | exact Ne.symm (And.left (And.right (And.right (And.right (And.right (And.right (by assumption))))))) | exact Ne.symm (And.left (And.right (And.right (And.right (And.right (And.right (And.right (by assumption)))))))) | exact Nat.ne_of_lt (And.left (by assumption)) | exact Nat.ne_of_lt (And.left (And.right (by assumption))) | exact Nat.ne_of_lt (And.left (And.right (And.right (by assumption)))) | exact Nat.ne_of_lt (And.left (And.right (And.right (And.right (by assumption))))) | exact Nat.ne_of_lt (And.left (And.right (And.right (And.right (And.right (by assumption)))))) | exact Nat.ne_of_lt (And.left (And.right (And.right (And.right (And.right (And.right (by assumption))))))) | exact Nat.ne_of_gt (And.left (by assumption)) | exact Nat.ne_of_gt (And.left (And.right (by assumption))) | exact Nat.ne_of_gt (And.left (And.right (And.right (by assumption)))) | exact Nat.ne_of_gt (And.left (And.right (And.right (And.right (by assumption))))) | exact Nat.ne_of_gt (And.left (And.right (And.right (And.right (And.right (by assumption)))))) | exact Nat.ne_of_gt (And.left (And.right (And.right (And.right (And.right (And.right (by assumption))))))) | omega)
  k_with "exec Assign cons ListComp" =>
    k_here
    first
      | (lct_look; (refine LCt.Assign_ListComp_T (F₀ := by k_asm) (by rfl) (by with_unfolding_all rfl) (by with_unfolding_all rfl) (by decide) (by rfl) (by decide) (by rfl) (by rfl) (by rfl) ?_))
      | (refine LCg.Assign_ListComp_U (F₀ := by k_asm) (by rfl) (by with_unfolding_all rfl) (by with_unfolding_all rfl) (by decide) (by rfl) (by decide) (by rfl) (by rfl) (by rfl) ?_)
  k_with "eval ListComp" =>
    k_here
    first
      | (lct_look; (refine LCt.ListComp_T (F₀ := by k_asm) (by with_unfolding_all rfl) (by decide) (by rfl) (by decide) (by rfl) ?_))
      | (refine LCg.ListComp_U (F₀ := by k_asm) (by with_unfolding_all rfl) (by decide) (by rfl) (by decide) (by rfl) ?_)
  k_with "exec For Name Call cons nil" =>
    ((rename Fr _ _ _ _ => lF'); (refine For_turns lF' ?_))
  k_with "pyIter ref" =>
    ((rename Fr _ _ _ _ => lF'); (rename News _ _ _ _ => lN'); (refine sh_loop ts (by rfl) (by assumption) lF' lN' (by assumption) ?_ ?_); (clear lF' lN'); (rotate_left; (intro fsB nfB wvB wsB nwB bvB bsB nbB omB vmB u' h' tk' iwB ibB hmB hpB F' N'; (try dsimp only); have lfB := hpB.lf; have lwB := hpB.lw; have lbB := hpB.lb); rotate_right); (intro fsB nfB wvB wsB nwB bvB bsB nbB omB vmB preB kB tB u' h' tk' ownB hkB hltB hoffB iwB ibB hmB hpB F' N'; (try simp only [List.cons_append] at N'); (try dsimp only); have lfB := hpB.lf; have lwB := hpB.lw; have lbB := hpB.lb; have lwV := iwB.length; have lbV := ibB.length; have mOK := mem_ok hkB hltB; have mNe := mOK.ne; have mLe := mOK.le; have mT0 := mOK.top0; have mT5 := mOK.top5; have mR0 := mOK.rest0; have mR1 := mOK.rest1); (all_goals (try k_fold)))
  k_with "CompSrcT" =>
    k_here; first
    | (refine LCt.CompSrcT.range (n := 5) (by rfl) (by k_asm) (by k_asm) (by assumption) (by decide) (by rfl) (by exact Nat.le_of_ble_eq_true rfl) ?_; intro g'; (refine mem_range kB (fun kI t' I' oI' C' oC' D' m' ys' l' h' tk' E' hlo' hhi' hI' hC' hx' F' N' off' ne' => ?_) ?_); (all_goals (try (simp only [LCg.Off3, and_true] at off'))); (all_goals (try ((show KPfMark → _); intro hMark'))); (all_goals (try k_fold)))
    | ((refine LCt.CompSrcT.ledger (by rfl) (by k_asm) (by k_asm) (by k_mem) (by kcf_size) ?_); intro g'; (refine kci_list posG (by assumption) (fun kI t' I' oI' C' oC' D' m' ys' l' h' tk' E' hk' hI' hC' hx' F' N' off' ne' => ?_) ?_ posG_grows); (all_goals (try (simp only [LCg.Off3, and_true] at off'))); (all_goals (try ((show KPfMark → _); intro hMark'))); (all_goals (try k_fold)))
  k_with "KCiEl" =>
    (with_reducible first | exact kci_el (mem_yes (by assumption)) rfl rfl | exact kci_el (pos_yes (by assumption)) rfl rfl)
  k_with "KCiNo" =>
    (with_reducible first | exact kci_no (mem_no (by assumption)) rfl | exact kci_no (pos_no (by assumption)) rfl)
  k_with "KCfEl" =>
    (refine kcf_el (by rfl) (by rfl) (by rfl))
  k_with "CompEnd" =>
    (refine LCg.CompEnd.intro (by assumption) (by assumption) _ (by exact fun _ h9 => h9) (by first | assumption | (simp only [LCg.Off3, and_true]; assumption)) (by first | exact True.intro | lcg_src | assumption) ?_)
  k_with "subscriptTail Name Name ref int" =>
    k_here; ((first | (refine sub_pushed (by k_asm) (by k_mem) (by first | omega | (simp only [bvals, List.length_map]; omega)) (by omega) ?_) | (refine sub_bool (by k_asm) (by k_mem) (by assumption) (by omega) (by omega) ?_)); (try dsimp only); (try k_fold))
  k_with "subscriptTail Name BinOp ref int" =>
    k_here; (skip; (refine sub_int (by k_asm) (by k_mem) (by assumption) (by omega) (by omega) (by omega) ?_); intro t9; (try dsimp only); (try k_fold))
  k_with "CompSrc" =>
    k_here; first
    | ((refine LCg.CompSrc.ledger (by rfl) (by k_asm) (by k_asm) (by k_mem) (by kcf_size) ?_); intro g'; (refine kcf_list (fun i => wsB.getD (kB - 2 ^ i.toNat).toNat 0) (by assumption) (fun kI t' I' oI' C' oC' D' m' ys' h' tk' E' hk' hC' hx' F' N' off' ne' hMark' => ?_) ?_); (all_goals (try (simp only [LCg.Off3, and_true] at off'))); (have kE9 := mOK.each kI hk'); (all_goals (try k_fold)))
    | ((refine LCg.CompSrc.range (n := 5) (by rfl) (by k_asm) (by k_asm) (by assumption) (by decide) (by rfl) (by exact Nat.le_of_ble_eq_true rfl) ?_); intro g'; (refine kcf_range (gainAt bsB) (fun kI t' I' oI' C' oC' D' m' ys' h' tk' E' hlo' hhi' hC' hx' F' N' off' ne' hMark' => ?_) ?_); (all_goals (try (simp only [LCg.Off3, and_true] at off'))); (all_goals (try k_fold)))
  k_with "call builtin:max" =>
    k_here; (with_reducible show wpAny _ _ (call (Value.builtin _) [Value.ref _]) _ _ _); ((refine my_max (by k_asm) (by k_asm) (by k_mem) (by assumption) (by first | (simp only [List.length_map]; omega) | (simp only [List.length_take]; omega)) (by with_unfolding_all rfl) ?_); (try (have mxR := maxL_rng (ms := memL kB) (f := fun i => (kB - 2 ^ i.toNat).toNat) hpB.rng)); intro h9 t9 tk9 F9 N9; (try dsimp only); (try k_fold))
  k_with "subscriptTail Name UnaryOp ref int" =>
    k_here; (refine sub_last (by k_asm) (by k_mem) (by assumption) (by assumption) ?_; intro t9; (try simp only [← memT_def]); (try dsimp only); (try k_fold))
  k_with "InvEndN" =>
    (skip; (rename News _ _ _ _ => nE'); (refine sh_end (by assumption) nE' (by k_mem) (by k_mem) (by k_mem) (by k_mem) (by first | exact fun p hp => .tail _ (.tail _ (.tail _ (.tail _ (.tail _ (sub_cons (sub_cons (sub_cons sub_l1)) p hp))))) | exact fun p hp => .tail _ (.tail _ (.tail _ (.tail _ (.tail _ (.tail _ (sub_cons (sub_cons (sub_cons sub_l1)) p hp))))))) (by first | exact fun p hp => .tail _ (.tail _ (.tail _ (.tail _ (.tail _ (.tail _ (.tail _ (.tail _ (List.mem_append_right _ hp)))))))) | exact fun p hp => .tail _ (.tail _ (.tail _ (.tail _ (.tail _ (.tail _ (.tail _ (.tail _ (.tail _ (List.mem_append_right _ hp)))))))))) (by rfl) (by assumption) iwB (by assumption) (by intro z h1 h3; (simp only [List.contains_cons, List.contains_nil, Bool.or_false, Bool.or_eq_false_iff, beq_eq_false_iff_ne, ne_eq] at h3); (simp only [h1, h3, List.contains_cons, List.contains_nil, beq_iff_eq, Bool.or_eq_true, or_self, Bool.false_eq_true, if_false])) ?_); skip; (refine shP_step hpB hkB hltB (by with_reducible first | exact sh_b1 (by assumption) | exact sh_b3 (by assumption)) (by with_reducible first | exact sh_v1 (by assumption) | exact sh_v2 (by assumption) | exact sh_v3 (by assumption)) (by rfl)))
  refine wpAny_call ?_
  k_dflt (refine code_defC (by k_asm) (by k_asm) (by k_asm) (by k_asm) (by k_asm) (by exact rfl) (by exact rfl) (by assumption) (by k_is) (by k_is) (by ktr_room) (by exact BindsTo.of_eq rfl) (by rfl) (by decide) ?_ (by exact rfl) (by exact rfl) (by exact rfl); k_whole; intro g' L' h' tk' cells' FG' F' N' C' B' X' T' l1; (try k_lt l1); k_cells C'; (try simp only [List.cons_append, List.nil_append] at N'); (try dsimp only); (try k_lift B'); (try k_fold))
  have hc1 := allLt_up l1.2
  have hc2 := allLt_up hc1
  have hc3 := allLt_up hc2
  k_steps
  skip
  all_goals ((rename News _ _ _ _ => nE'); (rename _ ∧ _ => oE'); skip; refine hret _ _ _ _ _ (by assumption) (kst_newsOf nE' (by exact sub_ret)) (by exact oE'.2.2.2.2.2.2.2) (by rw [shape_done hpB]; assumption))
  skip
end Mine
end
section
open PySem PySem.W PyProof.Rows PySem.Calls
set_option maxRecDepth 100000
namespace Mine
-- a cut behind a statement that stores one name
section
variable {M : Model} {A : Around} {E : Value → Shared → Prop} {s : Shared} {env : Env} {Q : Flow → Shared → Prop} {g : Heap} {L : Addr} {m : Str → Option Value} {news : List (Addr × Obj)}
noncomputable def CutO {σ : Type} (g : Heap) (L : Addr) (s : Shared) (news : List (Addr × Obj)) (m : Str → Option Value) (x : Str) (val : σ → Value) (P : σ → Prop) (s' : Shared) : Prop :=
  ∃ (c : σ) (h : Heap) (tk : Nat) (m' : Str → Option Value), s' = { s with heap := h, toks := tk } ∧ Fr g L h m' ∧ News g L h news ∧ m' x = some (val c) ∧ (∀ z, z ≠ x → m' z = m z) ∧ P c
theorem CutO.intro {σ : Type} {val : σ → Value} {x : Str} {P : σ → Prop} (c : σ) {h : Heap} {tk : Nat} {m' : Str → Option Value} {news' : List (Addr × Obj)}
    (F : Fr g L h m') (N : News g L h news') (hs : ∀ p ∈ news, p ∈ news') (hx : m' x = some (val c)) (hm : ∀ z, z ≠ x → m' z = m z) (hp : P c) : CutO g L s news m x val P { s with heap := h, toks := tk } :=
  ⟨c, h, tk, m', rfl, F, fun p hp => N p (hs p hp), hx, hm, hp⟩
noncomputable def CutPostO {σ : Type} (g : Heap) (L : Addr) (s : Shared) (news : List (Addr × Obj)) (m : Str → Option Value) (x : Str) (val : σ → Value) (P : σ → Prop) (Q : Flow → Shared → Prop) (f : Flow) (s' : Shared) : Prop :=
  match f with
  | .next => CutO g L s news m x val P s'
  | f' => Q f' s'
theorem cut_one {σ : Type} {st : Stmt} {rest : List Stmt} (_F : Fr g L s.heap m) (_N : News g L s.heap news) (x : Str) (val : σ → Value) (P : σ → Prop)
    (h1 : wpAny M A (exec st env) (CutPostO g L s news m x val P Q) E s)
    (h2 : ∀ (c : σ) (h : Heap) (tk : Nat), P c → Fr g L h (fun y => if y = x then some (val c) else m y) → News g L h news → wpAny M A (execs rest env) Q E { s with heap := h, toks := tk }) :
    wpAny M A (execs (st :: rest) env) Q E s := by
  rw [execs_cons]
  refine wpAny_bind (wpAny_mono h1 (fun f s' q => ?_) fun _ _ x => x)
  cases f with
  | next =>
    obtain ⟨c, h, tk, m', rfl, F', N', hx, hm, hp⟩ := q
    refine h2 c h tk hp ?_ N'
    have e : (fun y => if y = x then some (val c) else m y) = m' := by
      funext y
      by_cases hy : y = x
      · rw [if_pos hy, hy, hx]
      · rw [if_neg hy, hm y hy]
    rw [e]; exact F'
  | brk => exact wpAny_pure q
  | cont => exact wpAny_pure q
  | ret v => exact wpAny_pure q
end
section
variable {prog : Program} {w : World} {A : Around} {E : Value → Shared → Prop} {s : Shared} {h₀ : Heap} {L l : Addr} {m : Str → Option Value} {news : List (Addr × Obj)} {value slice : PySem.Expr} {its : Array Value} {vs zs : List Value} {ns : List Int} {vl vu : Value} {lo hi : Option Int} {x y : Int} {Q : Value → Shared → Prop}
theorem my_slice3 {vk : Value} {st : Option Int} {ops : List Value} (F : Fr h₀ L s.heap m) (N : News h₀ L s.heap news) (hl : s.heap.IsList l vs.toArray) (hi' : IntsAre vs ns) (hn : ns.length ≤ 63) (pl : IsPart vl lo) (pu : IsPart vu hi) (pk : IsPart vk st) (h0 : st ≠ some 0)
    (h : ∀ D ws ms h', Fr h₀ L h' m → News h₀ L h' ((D, listOf (List.toArray ws) 0) :: news) → (∀ p ∈ news, p.1 < D) → IntsAre ws ms → ws.length ≤ 63 → Q (.ref D) { s with heap := h' })
    (hs : subscripted slice false (.ref l) (.ref s.heap.objs.size) = operate ops (getItem (.ref l) (.ref s.heap.objs.size))) (ht : ∀ r, letTemporaryGo value (.ref l) r = pure ()) :
    wpAny (model prog w) A (subscriptTail value slice (.ref l) (.ref s.heap.objs.size)) Q E { s with heap := s.heap.push { cls := .type "slice", data := .fields #[vl, vu, vk] } } := by
  have hl2 := hi'.length
  have hle : (slicePick vs.toArray lo hi st).toList.length ≤ 63 := by
    have q := slicePick_size_le vs.toArray lo hi st
    rw [Array.length_toList]
    simp only [List.size_toArray] at q
    omega
  exact kmk_slice3_lit F N hl pl pu pk h0 rfl (fun D h' F' N' l1 => h D _ _ h' F' N' l1 (hi'.pick lo hi st) hle) hs ht (by rw [List.size_toArray, sizeLine_eq]; omega)
theorem sub_str {ys : List Str} {c : Nat} {k : Int} {u : Tok} (N : News h₀ L s.heap news) (hm : (l, listOf vs.toArray c) ∈ news) (hi : StrsAre vs ys) (h0 : 0 ≤ k) (h1 : k < (ys.length : Int)) (hz : k < 2 ^ 63) (h : ∀ t, Q (.str (ys.getD k.toNat Str.empty) t) s)
    (hs : subscripted slice false (.ref l) (.int k u) = operate [.ref l, .int k u] (getItem (.ref l) (.int k u)) := by with_unfolding_all rfl) (hg : ∀ r, letTemporaryGo value (.ref l) r = pure () := by intro _; with_unfolding_all rfl) :
    wpAny (model prog w) A (subscriptTail value slice (.ref l) (.int k u)) Q E s := by
  have hlt : k.toNat < ys.length := by omega
  obtain ⟨t, ht⟩ := hi.get k.toNat (ys[k.toNat]) (List.getElem?_eq_getElem hlt)
  refine kim_list N hm rfl rfl h0 hz ht ?_ hs hg
  have e : ys.getD k.toNat Str.empty = ys[k.toNat] := by rw [List.getD_eq_getElem?_getD, List.getElem?_eq_getElem hlt]; rfl
  rw [← e]; exact h t
end
/-- the signs by number -/
noncomputable def opL : List Str := Txt.split (Str.ofString "( ) [ ] : , ; + - * / | & < > = . % { } == != <= >= ~ ^ << >> ** += -= *= /= %= &= |= ^= <<= >>= **= // //= @ @= -> ... := !") (Str.ofString " ")
noncomputable def opAt (n : Int) : Str := opL.getD (n - 7).toNat Str.empty
noncomputable def wdOf (n : Int) (l t : Str) : Str := l ++ opAt n ++ t
theorem opL_len : opL.length = 48 := by decide +kernel
theorem opL_short : ∀ x ∈ opL, x.length ≤ 3 := by decide +kernel
theorem opL_inj : ∀ i, i < 48 → ∀ j, j < 48 → opL.getD i Str.empty = opL.getD j Str.empty → i = j := by decide +kernel
theorem opAt_short (n : Int) : (opAt n).length ≤ 3 := by
  unfold opAt
  by_cases hn : (n - 7).toNat < opL.length
  · rw [List.getD_eq_getElem?_getD, List.getElem?_eq_getElem hn]; exact opL_short _ (List.getElem_mem hn)
  · rw [List.getD_eq_getElem?_getD, List.getElem?_eq_none (by omega)]; exact Nat.zero_le _
theorem opAt_inj {a b : Int} (ha : 7 ≤ a) (ha' : a ≤ 54) (hb : 7 ≤ b) (hb' : b ≤ 54) (h : opAt a = opAt b) : a = b := by
  have := opL_inj _ (by omega) _ (by omega) h
  omega
theorem nodup_le : ∀ (l m : List Str), l.Nodup → l ⊆ m → l.length ≤ m.length
  | [], m, _, _ => Nat.zero_le _
  | a :: l, m, hn, hs => by
    have ham : a ∈ m := hs List.mem_cons_self
    obtain ⟨hna, hnl⟩ := List.nodup_cons.mp hn
    have hsub : l ⊆ m.erase a := by
      intro x hx
      refine (List.mem_erase_of_ne ?_).mpr (hs (List.mem_cons_of_mem _ hx))
      rintro rfl
      exact hna hx
    have h1 := nodup_le l (m.erase a) hnl hsub
    have h2 := List.length_erase_of_mem ham
    have h3 := List.length_pos_of_mem ham
    rw [List.length_cons]; omega
theorem str_append_eq (x y : Str) : (x ++ y) = ⟨x.cps ++ y.cps⟩ := rfl
theorem wd_inj {a b : Int} {l t : Str} (ha : 7 ≤ a) (ha' : a ≤ 54) (hb : 7 ≤ b) (hb' : b ≤ 54) (h : wdOf a l t = wdOf b l t) : a = b := by
  refine opAt_inj ha ha' hb hb' ?_
  unfold wdOf at h
  simp only [str_append_eq, Str.mk.injEq, Array.append_left_inj, Array.append_right_inj] at h
  cases ha : opAt a; cases hb : opAt b
  simp_all
/-- four words leave a number free -/
theorem free_number (l t : Str) (ws : List Str) (hw : ws.length < 48) : ∃ n : Int, 7 ≤ n ∧ n ≤ 54 ∧ ws.contains (wdOf n l t) = false := by
  refine Classical.byContradiction fun hno => ?_
  have hall : ∀ k : Nat, k < 48 → wdOf (7 + (k : Int)) l t ∈ ws := by
    intro k hk
    refine Classical.byContradiction fun hn => hno ⟨7 + (k : Int), by omega, by omega, ?_⟩
    rw [Bool.eq_false_iff]
    intro hc
    exact hn (List.contains_iff_mem.mp hc)
  have hnd : ((List.range 48).map fun k : Nat => wdOf (7 + (k : Int)) l t).Nodup := by
    rw [List.nodup_iff_pairwise_ne, List.pairwise_map]
    refine List.Pairwise.imp_of_mem (fun {a b} ha hb hne he => ?_) (List.nodup_iff_pairwise_ne.mp List.nodup_range)
    have h1 := List.mem_range.mp ha
    have h2 := List.mem_range.mp hb
    have := wd_inj (by omega) (by omega) (by omega) (by omega) he
    omega
  have hsub : ((List.range 48).map fun k : Nat => wdOf (7 + (k : Int)) l t) ⊆ ws := by
    intro x hx
    obtain ⟨k, hk, rfl⟩ := List.mem_map.mp hx
    exact hall k (List.mem_range.mp hk)
  have := nodup_le _ _ hnd hsub
  rw [List.length_map, List.length_range] at this
  omega
end Mine
end
section
open PySem PySem.W PyProof.Rows PySem.Calls
set_option maxRecDepth 100000
namespace Mine
section
variable {prog : Program} {w : World} {A : Around} {E : Value → Shared → Prop} {s : Shared} {env : Env} {h₀ : Heap} {x : Str} {body : List Stmt} {Q : Flow → Shared → Prop}
/-- for x in range(n) -/
theorem kg_up {σ : Type} {r : Addr} {n : Nat} {t₀ u₀ v₀ : Tok} {m₀ : Str → Option Value} (Led : σ → List (Addr × Obj)) (ps : σ → List (Str × Value)) (Facts : σ → Prop) (stored : List Str) (Pw : Nat → σ → Prop) (c₀ : σ)
    (hh : A.handled = none) (hr : IsRange s.heap r 0 (n : Int) 1 t₀ u₀ v₀) (hsm : Builtin.Range.small 0 (n : Int) 1 = true) (hn : Builtin.Range.rangeSize 0 (n : Int) 1 = (n : Int))
    (F : Fr h₀ env.locals s.heap m₀) (N : News h₀ env.locals s.heap (Led c₀)) (hf : Facts c₀) (hk : ∀ p ∈ ps c₀, m₀ p.1 = some p.2) (hp : Pw 0 c₀)
    (turn : ∀ (c : σ) (i : Nat) (k : Int) t' (u : Str → Option Value) h tk own, i < n → k = (i : Int) → OwnOff own ((Led c).map (·.1)) → Facts c → Pw i c →
      Fr h₀ env.locals h (fun y => if y = x then some (.int k t') else kstB (fun z => if stored.contains z then u z else m₀ z) (ps c) y) → News h₀ env.locals h (Led c ++ own) →
      wpAny (model prog w) A (execs body env) (InvPostG h₀ env.locals (KgS Led ps Facts x stored m₀ (Pw (i + 1))) own { s with heap := h, toks := tk } Q) E { s with heap := h, toks := tk })
    (done : ∀ (c : σ) (u : Str → Option Value) h tk, Facts c → Pw n c → Fr h₀ env.locals h (fun y => if y = x then u y else kstB (fun z => if stored.contains z then u z else m₀ z) (ps c) y) → News h₀ env.locals h (Led c) → Q .next { s with heap := h, toks := tk }) :
    wpAny (model prog w) A (pyIter (.ref r)) (fun it s₂ => LoopAtV prog w A h₀ env x body Q E it s₂) E s := by
  refine wpAny_pyIter_range hr hsm ?_
  have W : Walks prog w A s.heap.objs.size [s.heap.objs.size] [s.heap.objs.size] n (fun i v => i < n ∧ ∃ t, v = .int (0 + i * 1) t)
      (fun i h => IsRangeIter h s.heap.objs.size (0 + (i : Nat) * 1) ((n : Int) - (i : Nat)) 1) := (Walks.range hh _ 0 1 n).bound
  refine kg_loop Led ps Facts stored Pw c₀ W (fun i h st => ⟨_, st⟩) (fun e => absurd F.ns.lt (e ▸ Nat.lt_irrefl _)) (next_is_new F) (by show IsRangeIter _ _ _ _ _; rw [hn]; simpa using Heap.get?_push_size _ rfl)
    (F.push _) (fun p hp => ⟨Heap.get?_push_of_some _ (N p hp).1, (N p hp).2⟩) (fun p hp e => absurd (Heap.lt_size (N p hp).1) (e ▸ Nat.lt_irrefl _)) hf hk hp ?_ done
  rintro c i v u h tk own hi ⟨_, t', rfl⟩ hoff hf' hp' F₁ N₁
  have e : (0 : Int) + (i : Int) * 1 = (i : Int) := by omega
  rw [e] at F₁
  exact turn c i _ t' u h tk own hi rfl hoff hf' hp' F₁ N₁
end
noncomputable def leadL : List Str := [Str.ofString "", Str.ofString "a", Str.ofString "A"]
theorem lead_len {x : Str} (h : x ∈ leadL) : x.length ≤ 1 := by
  have : ∀ x ∈ leadL, x.length ≤ 1 := by decide +kernel
  exact this x h
theorem lead_ok {x : Str} (h : x ∈ leadL) : PyData.strOk x = true := by
  have : ∀ x ∈ leadL, PyData.strOk x = true := by decide +kernel
  exact this x h
theorem lead_in {k : Nat} (h : k < 3) : leadL.getD k Str.empty ∈ leadL := by
  have : ∀ k, k < 3 → leadL.getD k Str.empty ∈ leadL := by decide +kernel
  exact this k h
structure DItem where
  a : Addr
  n : Int
  tn : Tok
  l : Str
  tl : Tok
  t : Str
  tt : Tok
  c : Nat
noncomputable def DItem.obj (i : DItem) : Obj := listOf #[.int i.n i.tn, .str i.l i.tl, .str i.t i.tt] i.c
noncomputable def itLed (its : List DItem) : List (Addr × Obj) := its.map fun i => (i.a, i.obj)
noncomputable def itRefs (its : List DItem) : List Value := its.map fun i => .ref i.a
noncomputable def itWds (its : List DItem) : List Str := its.map fun i => wdOf i.n i.l i.t
structure DrSig where
  wv : List Value
  ws : List Str
  nw : Nat
  its : List DItem
  nd : Nat
noncomputable abbrev drLed (pw pd : Addr) (cst : List (Addr × Obj)) (c : DrSig) : List (Addr × Obj) := (pw, listOf c.wv.toArray c.nw) :: (pd, listOf (itRefs c.its).toArray c.nd) :: (cst ++ itLed c.its)
noncomputable abbrev drFacts (c : DrSig) : Prop := StrsAre c.wv c.ws
structure DrP (pw pd : Addr) (adr : List Addr) (i : Nat) (ws : List Str) (its : List DItem) : Prop where
  len : its.length = i
  wd : ws = itWds its
  ok : ∀ x ∈ its, 7 ≤ x.n ∧ x.n ≤ 54 ∧ x.l ∈ leadL ∧ x.t ∈ leadL
  nd : ws.Nodup
  off : OwnOff (itLed its) (pw :: pd :: adr)
theorem dr_first (pw pd : Addr) (adr : List Addr) : DrP pw pd adr 0 [] [] := ⟨rfl, rfl, (fun _ h => nomatch h), List.nodup_nil, (fun _ h => nomatch h)⟩
noncomputable abbrev drWord (pw pd : Addr) (adr : List Addr) (i : Nat) (c : DrSig) : Prop := DrP pw pd adr i c.ws c.its
noncomputable abbrev drNames : List Str := [Str.ofString "cell", Str.ofString "number", Str.ofString "lead", Str.ofString "tail"]
section
variable {prog : Program} {w : World} {A : Around} {E : Value → Shared → Prop} {s : Shared} {env : Env} {h₀ : Heap} {body : List Stmt} {Q : Flow → Shared → Prop}
theorem dr_loop (adr : List Addr) {r pw pd : Addr} {cst : List (Addr × Obj)} {nw nd : Nat} {t₀ u₀ v₀ : Tok} {m₀ : Str → Option Value}
    (hh : A.handled = none) (hr : IsRange s.heap r 0 5 1 t₀ u₀ v₀) (F : Fr h₀ env.locals s.heap m₀)
    (N : News h₀ env.locals s.heap ((pw, listOf #[] nw) :: (pd, listOf #[] nd) :: cst))
    (turn : ∀ (wv : List Value) (ws : List Str) (nw : Nat) (its : List DItem) (nd : Nat) (i : Nat) (k : Int) t' (u : Str → Option Value) h tk own, i < 5 → k = (i : Int) → OwnOff own (pw :: pd :: (cst ++ itLed its).map (·.1)) → StrsAre wv ws → DrP pw pd adr i ws its →
      Fr h₀ env.locals h (fun y => if y = Str.ofString "j" then some (.int k t') else if drNames.contains y then u y else m₀ y) → News h₀ env.locals h ((pw, listOf wv.toArray nw) :: (pd, listOf (itRefs its).toArray nd) :: (cst ++ itLed its ++ own)) →
      wpAny (model prog w) A (execs body env) (InvPostG h₀ env.locals (KgS (drLed pw pd cst) (fun _ => []) drFacts (Str.ofString "j") drNames m₀ (drWord pw pd adr (i + 1))) own { s with heap := h, toks := tk } Q) E { s with heap := h, toks := tk })
    (done : ∀ (wv : List Value) (ws : List Str) (nw : Nat) (its : List DItem) (nd : Nat) (u : Str → Option Value) h tk, StrsAre wv ws → DrP pw pd adr 5 ws its →
      Fr h₀ env.locals h (fun y => if y = Str.ofString "j" then u y else if drNames.contains y then u y else m₀ y) → News h₀ env.locals h ((pw, listOf wv.toArray nw) :: (pd, listOf (itRefs its).toArray nd) :: (cst ++ itLed its)) → Q .next { s with heap := h, toks := tk }) :
    wpAny (model prog w) A (pyIter (.ref r)) (fun it s₂ => LoopAtV prog w A h₀ env (Str.ofString "j") body Q E it s₂) E s :=
  kg_up (n := 5) (drLed pw pd cst) (fun _ => []) drFacts drNames (drWord pw pd adr) ⟨[], [], nw, [], nd⟩ hh hr (by decide) (by decide) F (by rw [show drLed pw pd cst ⟨[], [], nw, [], nd⟩ = (pw, listOf #[] nw) :: (pd, listOf #[] nd) :: cst from by simp [drLed, itRefs, itLed]]; exact N) .nil (List.forall_mem_nil _) (dr_first pw pd adr)
    (fun c i k t' u h tk own h1 h2 h3 h4 h5 F' N' => turn c.wv c.ws c.nw c.its c.nd i k t' u h tk own h1 h2 h3 h4 h5 F' N')
    (fun c u h tk h4 h5 F' N' => done c.wv c.ws c.nw c.its c.nd u h tk h4 h5 F' N')
theorem drP_step {pw pd D : Addr} {adr : List Addr} {i : Nat} {ws : List Str} {its : List DItem} {n : Int} {tn tl tt : Tok} {l t : Str} {c : Nat} (hp : DrP pw pd adr i ws its) (h1 : 7 ≤ n) (h2 : n ≤ 54) (h3 : l ∈ leadL) (h4 : t ∈ leadL) (hn : ws.contains (wdOf n l t) = false) (a : pw < D) (b : pd < D) (hadr : ∀ q ∈ adr, q < D) :
    DrP pw pd adr (i + 1) (ws ++ [wdOf n l t]) (its ++ [⟨D, n, tn, l, tl, t, tt, c⟩]) := by
  refine ⟨by rw [List.length_append, hp.len]; rfl, ?_, ?_, ?_, ?_⟩
  · rw [hp.wd, itWds, itWds, List.map_append]; rfl
  · intro x hx
    rcases List.mem_append.mp hx with hx | hx
    · exact hp.ok x hx
    · rw [List.mem_singleton.mp hx]; exact ⟨h1, h2, h3, h4⟩
  · rw [List.nodup_append]
    refine ⟨hp.nd, by simp, ?_⟩
    intro x hx y hy
    rw [List.mem_singleton.mp hy]
    rintro rfl
    rw [List.contains_iff_mem.mpr hx] at hn
    cases hn
  · intro p hp' q hq
    rw [itLed, List.map_append] at hp'
    rcases List.mem_append.mp hp' with hp' | hp'
    · exact hp.off p hp' q hq
    · rw [List.map_cons, List.map_nil, List.mem_singleton] at hp'
      subst hp'
      simp only [List.mem_cons] at hq
      rcases hq with rfl | rfl | hq
      · exact Nat.ne_of_gt a
      · exact Nat.ne_of_gt b
      · exact Nat.ne_of_gt (hadr _ hq)
theorem dr_end {pw pd D : Addr} {adr : List Addr} {cst own news' : List (Addr × Obj)} {m₀ : Str → Option Value} {i : Nat} {L : Addr} {m' : Str → Option Value} {s₁ : Shared} {h' : Heap} {tk : Nat}
    {wv : List Value} {ws : List Str} {its : List DItem} {n : Int} {tn tl tt tv : Tok} {l t : Str} {c nw nd : Nat}
    (F : Fr h₀ L h' m') (N : News h₀ L h' news') (mw : (pw, listOf (wv.toArray.push (.str (wdOf n l t) tv)) nw) ∈ news') (md : (pd, listOf ((itRefs its).toArray.push (.ref D)) nd) ∈ news') (mD : (D, listOf #[.int n tn, .str l tl, .str t tt] c) ∈ news')
    (hc : ∀ p ∈ cst ++ itLed its, p ∈ news') (ho : ∀ p ∈ own, p ∈ news') (hoff : OwnOff own (pw :: pd :: (cst ++ itLed its).map (·.1))) (hoD : ∀ p ∈ own, p.1 < D) (iw : StrsAre wv ws)
    (hr : ∀ z, z ≠ Str.ofString "j" → drNames.contains z = false → m' z = m₀ z) (hp : DrP pw pd adr (i + 1) (ws ++ [wdOf n l t]) (its ++ [⟨D, n, tn, l, tl, t, tt, c⟩])) :
    InvEndG h₀ L (KgS (drLed pw pd cst) (fun _ => []) drFacts (Str.ofString "j") drNames m₀ (drWord pw pd adr (i + 1))) own s₁ { s₁ with heap := h', toks := tk } := by
  have e1 : (wv ++ [Value.str (wdOf n l t) tv]).toArray = wv.toArray.push (.str (wdOf n l t) tv) := by simp
  have e2 : (itRefs (its ++ [⟨D, n, tn, l, tl, t, tt, c⟩])).toArray = (itRefs its).toArray.push (.ref D) := by simp [itRefs]
  have e3 : itLed (its ++ [⟨D, n, tn, l, tl, t, tt, c⟩]) = itLed its ++ [(D, listOf #[.int n tn, .str l tl, .str t tt] c)] := by rw [itLed, List.map_append]; rfl
  refine kg_end (σ := DrSig) ⟨wv ++ [.str (wdOf n l t) tv], ws ++ [wdOf n l t], nw, its ++ [⟨D, n, tn, l, tl, t, tt, c⟩], nd⟩ F N ?_ ho ?_ (StrsAre.append' iw (.cons _ _ .nil)) (List.forall_mem_nil _) (fun z h1 _ h3 => hr z h1 h3) hp
  · intro p hp'
    simp only [drLed, e3, List.mem_cons] at hp'
    rcases hp' with rfl | rfl | hp'
    · rw [e1]; exact mw
    · rw [e2]; exact md
    · rw [← List.append_assoc] at hp'
      rcases List.mem_append.mp hp' with hp' | hp'
      · exact hc p hp'
      · rw [List.mem_singleton.mp hp']; exact mD
  · intro p hp' b hb
    simp only [drLed, e3, List.map_cons, List.mem_cons, ← List.append_assoc, List.map_append (l₁ := cst ++ itLed its)] at hb
    rcases hb with rfl | rfl | hb
    · exact hoff p hp' _ (.head _)
    · exact hoff p hp' _ (.tail _ (.head _))
    · rcases List.mem_append.mp hb with hb | hb
      · exact hoff p hp' b (.tail _ (.tail _ hb))
      · rw [List.map_nil, List.mem_singleton] at hb
        rw [hb]; exact Nat.ne_of_lt (hoD p hp')
end
end Mine
end
section
open PySem PySem.W PyProof.Rows PySem.Calls
set_option maxRecDepth 100000
namespace Mine
noncomputable abbrev ConD (w : World) (mean : ExcName → Option Value) (mg mb : Str → Option Value) (f : Addr) (S : Addr) (sv : List Value) (ns : List Int) (dd du : Nat) : Prop :=
  ∀ (dp un : Nat) (gd : Option (List Code)) (cn : Str) (cs : Scope) (a : Addr) (ccd : Value) (cl : List (Str × Addr)) (outer : List Env) (A₀ : Around) (base h₀ : Heap) (L : Addr) (m : Str → Option Value) (news : List (Addr × Obj)) (s : Shared) (Q E : Value → Shared → Prop),
    Below A₀ base outer h₀ → Fr h₀ L s.heap m → (KK w).In h₀ → News h₀ L s.heap news → TopM mean mg mb h₀ → cs.kind = .function → h₀.IsList S sv.toArray →
    IntsAre sv ns ∧ ns.length ≤ 63 → dp + dd < recursionLimit → un + du < cLine →
    (∀ (T pw pd : Addr) (wv : List Value) (ws : List Str) (nw : Nat) (its : List DItem) (nd : Nat) (h' : Heap) (tk' : Nat), Fr h₀ L h' m →
      News h₀ L h' ((T, { cls := .type "tuple", data := .seq #[.ref pd, .ref pw] }) :: (pw, listOf wv.toArray nw) :: (pd, listOf (itRefs its).toArray nd) :: (news ++ itLed its)) → (∀ p ∈ (pw, listOf wv.toArray nw) :: (pd, listOf (itRefs its).toArray nd) :: (news ++ itLed its), p.1 < T) →
      StrsAre wv ws → (∀ q ∈ news, q.1 ≠ pw ∧ q.1 ≠ pd) → DrP pw pd (news.map (·.1)) 5 ws its → Q (.ref T) { s with heap := h', toks := tk' }) →
      wpAny (model prog w) (ktrTop dp un gd cn cs L a ccd cl outer) (call (.ref f) [.ref S]) Q E s
noncomputable def likedL : List Int := [22, 16, 17, 20, 21, 35, 47, 33, 34, 38, 39, 46, 48, 44, 45, 27]
theorem liked_ok (k : Nat) (h : k < 16) : 7 ≤ likedL.getD k 0 ∧ likedL.getD k 0 ≤ 54 := by
  have : ∀ k, k < 16 → 7 ≤ likedL.getD k 0 ∧ likedL.getD k 0 ≤ 54 := by decide
  exact this k h
theorem liked_lo {n : Int} (h0 : n > 54) : 0 ≤ (n - 55).fdiv 3 := by
  rw [Int.fdiv_eq_ediv_of_nonneg _ (by decide)]; omega
theorem liked_hi {n : Int} (h0 : n ≤ 102) : (n - 55).fdiv 3 < 16 := by
  rw [Int.fdiv_eq_ediv_of_nonneg _ (by decide)]; omega
theorem liked_num {n : Int} (h0 : n > 54) (h1 : n ≤ 102) : 7 ≤ likedL.getD ((n - 55).fdiv 3).toNat 0 ∧ likedL.getD ((n - 55).fdiv 3).toNat 0 ≤ 54 := by
  have a := liked_lo h0
  have b := liked_hi h1
  exact liked_ok _ (by omega)
theorem lead_lo (x : Int) : 0 ≤ x.fmod 3 := Int.fmod_nonneg_of_pos x (by decide)
theorem lead_hi (x : Int) : x.fmod 3 < 3 := Int.fmod_lt_of_pos x (by decide)
theorem lead_at (x : Int) : leadL.getD (x.fmod 3).toNat Str.empty ∈ leadL := lead_in (by have := lead_lo x; have := lead_hi x; omega)
theorem op_short (k : Nat) : (opL.getD k Str.empty).length ≤ 3 := by
  have := opAt_short (k + 7)
  unfold opAt at this
  rwa [show ((k : Int) + 7 - 7).toNat = k by omega] at this
theorem sapp_len (x y : Str) : (x ++ y).length = x.length + y.length := by rw [str_append_eq]; simp [Str.length]
theorem add1 {x : Str} {k : Nat} (hx : x.length ≤ 1) : x.length + (opL.getD k Str.empty).length ≤ sizeLine := by
  have := op_short k
  rw [sizeLine_eq]; omega
theorem add2 {x t : Str} {k : Nat} (hx : x.length ≤ 1) (ht : t.length ≤ 1) : (x ++ opL.getD k Str.empty).length + t.length ≤ sizeLine := by
  have := op_short k
  rw [sizeLine_eq, sapp_len]; omega
theorem wh_next {n : Int} (h0 : 7 ≤ n) (h1 : n ≤ 54) : 7 + (n - 6).fmod 48 = if n = 54 then 7 else n + 1 := by
  rw [Int.fmod_eq_emod_of_nonneg _ (by decide)]
  split <;> omega
theorem wh_word {n : Int} (h0 : 7 ≤ n) (h1 : n ≤ 54) : 7 ≤ 7 + (n - 6).fmod 48 ∧ 7 + (n - 6).fmod 48 ≤ 54 := by
  rw [wh_next h0 h1]; split <;> omega
theorem any_contains (ws : List Str) (a : Str) : (ws.any fun x => x == a) = ws.contains a := by
  rw [List.contains_eq_any_beq]
  congr 1
  funext x
  rw [Bool.eq_iff_iff, beq_iff_eq, beq_iff_eq, eq_comm]
theorem wh_free {n : Int} {l t : Str} {ws : List Str} (hc : (ws.any fun x => x == l ++ opL.getD (n - 7).toNat Str.empty ++ t) = false) : ws.contains (wdOf n l t) = false := by
  rw [← any_contains]; exact hc
theorem wh_meas {n nT : Int} {l t : Str} {ws : List Str} (h0 : 7 ≤ n) (h1 : n ≤ 54) (t0 : 7 ≤ nT) (t1 : nT ≤ 54) (hT : ws.contains (wdOf nT l t) = false) (hc : (ws.any fun x => x == l ++ opL.getD (n - 7).toNat Str.empty ++ t) = true) :
    ((nT - (7 + (n - 6).fmod 48)).emod 48).toNat < ((nT - n).emod 48).toNat := by
  have hc : ws.contains (wdOf n l t) = true := by rw [← any_contains]; exact hc
  have hne : n ≠ nT := by rintro rfl; rw [hT] at hc; cases hc
  rw [wh_next h0 h1]
  show ((nT - _) % 48).toNat < ((nT - n) % 48).toNat
  split <;> omega
theorem nu_ok (x : Int) : 7 ≤ 7 + x.fmod 96 ∧ 7 + x.fmod 96 ≤ 102 := by
  have h1 := Int.fmod_nonneg_of_pos x (show (0 : Int) < 96 by decide)
  have h2 := Int.fmod_lt_of_pos x (show (0 : Int) < 96 by decide)
  omega
theorem sub_cst {d p1 p2 c1 c2 c3 : Addr × Obj} {l i o : List (Addr × Obj)} : ∀ p ∈ (c1 :: c2 :: c3 :: l) ++ i, p ∈ d :: p1 :: p2 :: c1 :: c2 :: c3 :: (l ++ (i ++ o)) := fun p hp => by
  simp only [List.cons_append, List.mem_cons, List.mem_append] at hp ⊢
  rcases hp with h | h | h | h | h <;> simp [h]
theorem sub_own {d p1 p2 c1 c2 c3 : Addr × Obj} {l i o : List (Addr × Obj)} : ∀ p ∈ o, p ∈ d :: p1 :: p2 :: c1 :: c2 :: c3 :: (l ++ (i ++ o)) := fun p hp => by
  simp only [List.mem_cons, List.mem_append]
  simp [hp]
theorem lt_pw1 {D a b c d e : Addr} {l : List (Addr × Obj)} (h : a < D ∧ b < D ∧ c < D ∧ d < D ∧ e < D ∧ AllLt D l) : a < D := h.1
theorem lt_pw2 {D a b c d e : Addr} {l : List (Addr × Obj)} (h : a < D ∧ b < D ∧ c < D ∧ d < D ∧ e < D ∧ AllLt D l) : b < D := h.2.1
theorem sub_fin {t p1 p2 c1 c2 c3 : Addr × Obj} {l i : List (Addr × Obj)} : ∀ p ∈ t :: p1 :: p2 :: (l ++ i), p ∈ t :: p1 :: p2 :: c1 :: c2 :: c3 :: (l ++ i) := fun p hp => by
  simp only [List.mem_cons, List.mem_append] at hp ⊢
  rcases hp with h | h | h | h | h <;> simp [h]
theorem lt_fin {D a b c d e : Addr} {o1 o2 : Obj} {l : List (Addr × Obj)} (h : a < D ∧ b < D ∧ c < D ∧ d < D ∧ e < D ∧ AllLt D l) : ∀ p ∈ (a, o1) :: (b, o2) :: l, p.1 < D := by
  intro p hp
  simp only [List.mem_cons] at hp
  rcases hp with rfl | rfl | hp
  · exact h.1
  · exact h.2.1
  · exact kst_ltOf h.2.2.2.2.2 p hp
theorem lt_adr {D a b c d e : Addr} {l i o : List (Addr × Obj)} (h : a < D ∧ b < D ∧ c < D ∧ d < D ∧ e < D ∧ AllLt D (l ++ (i ++ o))) : ∀ q ∈ l.map (·.1), q < D := by
  intro q hq
  obtain ⟨p, hp, rfl⟩ := List.mem_map.mp hq
  exact kst_ltOf h.2.2.2.2.2 p (List.mem_append_left _ hp)
theorem ne_two {pw pd : Addr} {b c d : Addr} {l : List (Addr × Obj)} (h1 : pd < pw ∧ b < pw ∧ c < pw ∧ d < pw ∧ AllLt pw l) (h2 : b < pd ∧ c < pd ∧ d < pd ∧ AllLt pd l) : ∀ q ∈ l, q.1 ≠ pw ∧ q.1 ≠ pd :=
  fun q hq => ⟨Nat.ne_of_lt (kst_ltOf h1.2.2.2.2 q hq), Nat.ne_of_lt (kst_ltOf h2.2.2.2 q hq)⟩
theorem lt_own {D a b c d e : Addr} {l i o : List (Addr × Obj)} (h : a < D ∧ b < D ∧ c < D ∧ d < D ∧ e < D ∧ AllLt D (l ++ (i ++ o))) : ∀ p ∈ o, p.1 < D :=
  fun p hp => kst_ltOf h.2.2.2.2.2 p (List.mem_append_right _ (List.mem_append_right _ hp))
local macro_rules | `(tactic| omega) => `(tactic| k_extra "om")
set_option maxHeartbeats 4000000 in
theorem draws_c (w mean mg mb) (S : Addr) (sv : List Value) (ns : List Int) : ConD w mean mg mb 43 S sv ns 3 24 := by
  unfold ConD KK Mine.prog TopM; k_with_none; w_top off; k_fill
  intro dp un gd cn cs a' ccd cl outer A₀ base h₀ L m news s Q E B F X N T hk hS hpre hd hu hret
  obtain ⟨hI, hlen⟩ := hpre
  have hMk9 := kstMark
  skip
  k_with "om" => with_reducible first
    | decide
    | exact oU1 (by assumption)
    | exact oU (by assumption) (by decide)
    | exact dI (by assumption) (by assumption) (by decide)
    | exact dI (by assumption) (Eq.trans (by assumption) (by assumption)) (by decide)
    | exact Nat.le_of_lt (dI (by assumption) (by assumption) (by decide))
    | exact Nat.le_of_lt (dI (by assumption) (Eq.trans (by assumption) (by assumption)) (by decide))
    | exact dK (by assumption) (by assumption) (by decide)
    | exact dK0 (by assumption)
    | exact dS (by assumption) (by decide)
    | exact Int.sub_nonneg_of_le (by assumption)
    | exact Nat.le_trans (by assumption) (by decide)
    | exact Int.not_lt.mp (by assumption)
    | exact Nat.ne_of_lt (And.left (by assumption))
    | exact Nat.ne_of_lt (And.left (And.right (by assumption)))
    | exact Nat.ne_of_lt (And.left (And.right (And.right (by assumption))))
    | exact Nat.ne_of_lt (And.left (And.right (And.right (And.right (by assumption)))))
    | exact Nat.ne_of_lt (And.left (And.right (And.right (And.right (And.right (by assumption))))))
    | exact Nat.ne_of_lt (And.left (And.right (And.right (And.right (And.right (And.right (by assumption)))))))
    | exact Nat.ne_of_gt (And.left (by assumption))
    | exact Nat.ne_of_gt (And.left (And.right (by assumption)))
    | exact Nat.ne_of_gt (And.left (And.right (And.right (by assumption))))
    | exact Nat.ne_of_gt (And.left (And.right (And.right (And.right (by assumption)))))
    | exact Nat.ne_of_gt (And.left (And.right (And.right (And.right (And.right (by assumption))))))
    | exact Nat.ne_of_gt (And.left (And.right (And.right (And.right (And.right (And.right (by assumption)))))))
  k_with "eval ListComp" => k_here; (refine LCg.ListComp_U (F₀ := by k_asm) (by with_unfolding_all rfl) (by decide) (by rfl) (by decide) (by rfl) ?_)
  k_with "CutPostO" => dsimp only [CutPostO]
  k_with "call builtin:list.append nil" => simp only [List.cons_append, List.nil_append]
  k_with "pyIter ref" =>
    ((rename Fr _ _ _ _ => lF'); (rename News _ _ _ _ => lN'); (rename _ = Txt.split _ _ => eP); (rename StrsAre _ _ => aP); (have hPl : StrsAre _ opL := eP ▸ aP); (refine dr_loop (news.map (·.1)) (by rfl) (by assumption) lF' lN' ?_ ?_); (clear lF' lN'); (rotate_left; (intro wvB wsB nwB itsB ndB u' h' tk' iwB hpB F' N'; (try simp only [List.cons_append, List.append_assoc] at N'); (try dsimp only)); rotate_right); (intro wvB wsB nwB itsB ndB iB kB tB u' h' tk' ownB hiB hkB hoffB iwB hpB F' N'; (try simp only [List.cons_append, List.append_assoc] at N'); (try dsimp only); have hIO := hpB.off; have lenI := hpB.len; (have lenW : wsB.length = itsB.length := by rw [hpB.wd]; simp [itWds]); (have lenR : (itRefs itsB).length = itsB.length := by simp [itRefs])); (all_goals (try k_fold)))
  k_with "subscriptTail Name Slice ref ref" =>
    k_here; ((refine my_slice3 (by k_asm) (by k_asm) (by kmk_list) hI hlen (by kmk_part) (by kmk_part) (by kmk_part) (by decide) ?_ (by with_unfolding_all rfl) (by kmk_pure)); intro D9 ws9 ms9 h9 F9 N9 l9 i9 len9; (try k_lt l9); (try dsimp only); (try k_fold))
  k_with "execs cons" =>
    ((with_reducible show wpAny _ _ (execs (Stmt.Assign _ _ (Pos.mk 120 _ _ _) :: _) _) _ _ _); (rename Fr _ _ _ _ => lF'); (rename News _ _ _ _ => lN'); (
                    (refine cut_one (σ := Int × Tok) lF' lN' (Str.ofString "cell") (fun c => .int c.1 c.2) (fun _ => True) ?_ ?_);
                    (rotate_left; (clear lF' lN'; rintro ⟨ceB, tceB⟩ h' tk' - F' N'; (try dsimp only at F')); rotate_right); (all_goals try dsimp only)))
  k_with "execs cons" =>
    ((with_reducible show wpAny _ _ (execs (Stmt.Assign _ _ (Pos.mk 121 _ _ _) :: _) _) _ _ _); (rename Fr _ _ _ _ => lF'); (rename News _ _ _ _ => lN'); (
                    (refine cut_one (σ := Int × Tok) lF' lN' (Str.ofString "number") (fun c => .int c.1 c.2) (fun c => 7 ≤ c.1 ∧ c.1 ≤ 102) ?_ ?_);
                    (rotate_left; (clear lF' lN'; rintro ⟨nuB, tnuB⟩ h' tk' ⟨nuB0, nuB1⟩ F' N'; (try dsimp only at F' nuB0 nuB1)); rotate_right); (all_goals try dsimp only)))
  k_with "execs cons" =>
    ((with_reducible show wpAny _ _ (execs (Stmt.If _ _ _ (Pos.mk 122 _ _ _) :: _) _) _ _ _); (rename Fr _ _ _ _ => lF'); (rename News _ _ _ _ => lN'); (
                    (refine cut_one (σ := Int × Tok) lF' lN' (Str.ofString "number") (fun c => .int c.1 c.2) (fun c => 7 ≤ c.1 ∧ c.1 ≤ 54) ?_ ?_);
                    (rotate_left; (clear lF' lN'; rintro ⟨nvB, tnvB⟩ h' tk' ⟨nvB0, nvB1⟩ F' N'; (try dsimp only at F' nvB0 nvB1)); rotate_right); (all_goals try dsimp only)))
  k_with "execs cons" =>
    ((with_reducible show wpAny _ _ (execs (Stmt.Assign _ _ (Pos.mk 124 _ _ _) :: _) _) _ _ _); (rename Fr _ _ _ _ => lF'); (rename News _ _ _ _ => lN'); (
                    (refine cut_one (σ := Str × Tok) lF' lN' (Str.ofString "lead") (fun c => .str c.1 c.2) (fun c => c.1 ∈ leadL) ?_ ?_);
                    (rotate_left; (clear lF' lN'; rintro ⟨leB, tleB⟩ h' tk' leBm F' N'; (try dsimp only at F' leBm); have leB0 := lead_len leBm); rotate_right); (all_goals try dsimp only)))
  k_with "execs cons" =>
    ((with_reducible show wpAny _ _ (execs (Stmt.Assign _ _ (Pos.mk 125 _ _ _) :: _) _) _ _ _); (rename Fr _ _ _ _ => lF'); (rename News _ _ _ _ => lN'); (
                    (refine cut_one (σ := Str × Tok) lF' lN' (Str.ofString "tail") (fun c => .str c.1 c.2) (fun c => c.1 ∈ leadL) ?_ ?_);
                    (rotate_left; (clear lF' lN'; rintro ⟨taB, ttaB⟩ h' tk' taBm F' N'; (try dsimp only at F' taBm); have taB0 := lead_len taBm); rotate_right); (all_goals try dsimp only)))
  k_with "subscriptTail Name BinOp ref int" =>
    k_here; first
    | ((refine sub_str (by k_asm) (by k_mem) hPl (by omega) (by rw [opL_len]; omega) (by omega) ?_); intro t9; (try dsimp only); (try k_fold))
    | ((refine sub_int (ns := likedL) (by k_asm) (by k_mem) (by repeat constructor) (by exact liked_lo (by assumption)) (by exact liked_hi (by assumption)) (by exact Int.lt_trans (liked_hi (by assumption)) (by decide)) ?_); intro t9; (try dsimp only); (try k_fold))
  k_with "subscriptTail List cons BinOp ref int" =>
    k_here; ((refine kba_turn (value' := Expr.Name (Str.ofString "_") ⟨0, 0, 0, 0⟩) (fun _ => rfl) ?_); (refine sub_str (ys := leadL) (by k_asm) (by k_mem) (by repeat constructor) (by exact lead_lo _) (by exact lead_hi _) (by exact Int.lt_trans (lead_hi _) (by decide)) ?_); intro t9; (try dsimp only); (try k_fold))
  k_with "execs cons" =>
    ((with_reducible show wpAny _ _ (execs (Stmt.While _ _ _ (Pos.mk 126 _ _ _) :: _) _) _ _ _); (rename Fr _ _ _ _ => lF'); (rename News _ _ _ _ => lN'); (
                    (refine cut_one (σ := Int × Tok) lF' lN' (Str.ofString "number") (fun c => .int c.1 c.2) (fun c => 7 ≤ c.1 ∧ c.1 ≤ 54 ∧ wsB.contains (wdOf c.1 leB taB) = false) ?_ ?_);
                    (rotate_left; (clear lF' lN'; rintro ⟨nwC, tnwC⟩ h' tk' ⟨nwC0, nwC1, nwC2⟩ F' N'; (try dsimp only at F' nwC0 nwC1 nwC2)); rotate_right); (all_goals try dsimp only)))
  k_with "exec While" =>
    (obtain ⟨nT, nT0, nT1, nT2⟩ := free_number leB taB wsB (by omega); (k_while (fun _ n => 7 ≤ n ∧ n ≤ 54) (fun _ n => ((nT - n).emod 48).toNat) "number"))
  k_with "binaryOp Add str str" =>
    k_here; (with_reducible show wpAny _ _ (binaryOp Operator.Add (Value.str _ _) (Value.str _ _)) _ _ _); ((refine SBL.add ?_ (by first | exact add1 (by assumption) | exact add2 (by assumption) (by assumption))); intro t9 k9 e9; clear e9; (try dsimp only); (try k_fold))
  k_with "state" => (first | exact ⟨by assumption, by assumption⟩ | exact wh_word (by assumption) (by assumption) | (skip; fail "stop"))
  k_with "measure" => (exact wh_meas (by assumption) (by assumption) nT0 nT1 nT2 (by assumption))
  k_with "CompSrc" =>
    k_here; ((refine LCg.CompSrc.ledger (by rfl) (by k_asm) (by k_asm) (by k_mem) (by first | kcf_size | (rw [sizeLine_eq]; simp only [List.size_toArray]; omega)) ?_); intro g'; (refine kcf_list (fun x => x.fmod 1000000) i9 (fun kI t' I' oI' C' oC' D' m' ys' h' tk' E' hk' hC' hx' F' N' off' ne' hMark' => ?_) ?_); (all_goals (try (simp only [LCg.Off3, and_true] at off'))); (all_goals (try k_fold)))
  k_with "KCfEl" =>
    (refine kcf_el (by rfl) (by rfl) (by rfl))
  k_with "CompEnd" =>
    (refine LCg.CompEnd.intro (by assumption) (by assumption) _ (by exact fun _ h9 => h9) (by first | assumption | (simp only [LCg.Off3, and_true]; assumption)) (by first | exact True.intro | lcg_src | assumption) ?_)
  k_with "call builtin:list.append cons nil" =>
    k_here; (with_reducible show wpAny _ _ (call (Value.builtin _) [Value.ref _, Value.ref _]) _ _ _); ((refine append_K (by k_asm) (by k_asm) (by k_upd) ?_ (by rw [sizeLine_eq]; simp only [List.size_toArray, lenR]; omega)); intro h9 F9 N9; (try dsimp only); (try k_fold))
  k_with "CutO" =>
    ((rename News _ _ _ _ => nE'); (refine CutO.intro (c := (_, _)) (by assumption) nE' (by first | exact fun _ h9 => h9 | exact fun _ h9 => .tail _ h9 | exact fun _ h9 => .tail _ (.tail _ h9) | exact fun _ h9 => .tail _ (.tail _ (.tail _ h9))) (by rfl) (by intro z h; first | (simp only [h, if_false]; done) | (simp only [h, if_false, List.contains_nil, Bool.false_eq_true]; done) | (skip; fail "stop")) ?_); first | exact True.intro | exact nu_ok _ | exact ⟨by assumption, by assumption, wh_free (by assumption)⟩ | exact lead_at _ | exact liked_num (by assumption) (by assumption) | (exact ⟨by omega, by omega⟩) | (skip; fail "stop"))
  k_with "InvEndG" =>
    ((rename News _ _ _ _ => nE'); (refine dr_end (by assumption) nE' (by k_mem) (by k_mem) (by k_mem) (by exact sub_cst) (by exact sub_own) hoffB (by exact lt_own (by assumption)) iwB (by intro z h1 h3; (simp only [List.contains_cons, List.contains_nil, Bool.or_false, Bool.or_eq_false_iff, beq_eq_false_iff_ne, ne_eq] at h3); (simp only [h1, h3, List.contains_cons, List.contains_nil, beq_iff_eq, Bool.or_eq_true, or_self, Bool.false_eq_true, if_false])) ?_); (refine drP_step hpB (by assumption) (by assumption) leBm taBm (by assumption) (by exact lt_pw1 (by assumption)) (by exact lt_pw2 (by assumption)) (by exact lt_adr (by assumption))))
  refine wpAny_call ?_
  k_dflt cell_enter
  (rename Fr h₀ _ _ _ => lFG)
  have hS2 := lFG.lst hS
  k_steps
  skip
  all_goals ((rename News _ _ _ _ => nE'); skip; (refine hret _ _ _ _ _ _ _ _ _ _ (by assumption) (kst_newsOf nE' (by exact sub_fin)) (by exact lt_fin (by assumption)) (by assumption) (by exact ne_two (by assumption) (by assumption)) (by assumption)))
  skip
end Mine
end
section
open PySem PySem.W PyProof.Rows PySem.Calls PyProof.Rows.LCg
set_option maxRecDepth 100000
namespace Mine
section
variable {prog : Program} {w : World} {A : Around} {E : Value → Shared → Prop} {s : Shared} {h₀ : Heap} {L : Addr} {m : Str → Option Value} {env : Env}
/-- one turn of a list comprehension, its source any iterator -/
noncomputable def GTurn (prog : Program) (w : World) (A : Around) (h₀ : Heap) (L : Addr) (m : Str → Option Value) (target elt : Expr) (it : Value) (cenv : Env) (news : List (Addr × Obj)) (J : Nat → List Value → Shared → Prop) (Fin : List Value → Shared → Prop) (n : Nat) (D C : Addr) (i : Nat) (ys : List Value) (Er : Value → Shared → Prop) (r : Option Value) (s₁ : Shared) : Prop :=
  match r with
  | none => ∃ m₁, Fr h₀ L s₁.heap m ∧ s₁.heap.Ns C m₁ ∧ News h₀ L s₁.heap ((D, lst ys) :: news) ∧ Fin ys s₁
  | some v => i < n ∧ wpAny (model prog w) A (letOwnedTupleGo target it v) (fun _ s₀ => wpAny (model prog w) A (assign target cenv v) (fun _ s₂ => wpAny (model prog w) A (eval elt cenv)
      (fun x s₄ => ∃ m₄, Fr h₀ L s₄.heap m ∧ s₄.heap.Ns C m₄ ∧ News h₀ L s₄.heap ((D, lst ys) :: news) ∧ ∀ h₅, Heap.SameBut D s₄.heap h₅ → J (i + 1) (ys ++ [x]) { s₄ with heap := h₅ }) Er s₂) Er s₀) Er s₁
theorem g_block {target elt iter : Expr} {scope : Scope} {cl : List (Str × Addr)} {pos : Pos} {s₂ : Shared} {it : Value} {news : List (Addr × Obj)} {RR : Value → Addr → Result → Shared → Prop}
    (J : Nat → List Value → Shared → Prop) (Fin : List Value → Shared → Prop) (n : Nat) (hsz : n ≤ sizeLine)
    (hcell : ∀ y ∈ scope.names, y.2 ≠ .cell) (hkind : scope.kind = .function)
    (F : Fr h₀ L s₂.heap m) (N : News h₀ L s₂.heap news)
    (self : ∀ h tk (Q E' : Value → Shared → Prop), (∀ b o, s₂.heap.get? b = some o → h.get? b = some o) → Q it { s₂ with heap := h, toks := tk } → wpAny (model prog w) A (pyIter it) Q E' { s₂ with heap := h, toks := tk })
    (start : ∀ h tk, (∀ b o, s₂.heap.get? b = some o → h.get? b = some o) → J 0 [] { s₂ with heap := h, toks := tk })
    (turn : ∀ D C i ys (s' : Shared) m' (Er : Value → Shared → Prop), s₂.heap.objs.size ≤ D → s₂.heap.objs.size ≤ C → D ≠ C → D ≠ L → C ≠ L → h₀.get? D = none → h₀.get? C = none → i ≤ n → ys.length = i → J i ys s' → Fr h₀ L s'.heap m → s'.heap.Ns C m' → News h₀ L s'.heap ((D, lst ys) :: news) →
      wpAny (model prog w) A (pyNext it) (GTurn prog w A h₀ L m target elt it (compEnvC scope cl C env) news J Fin n D C i ys Er) Er s')
    (hRR : ∀ D C ys s₁ m₁, Fr h₀ L s₁.heap m → News h₀ L s₁.heap ((D, lst ys) :: news) → Off1 D news → s₁.heap.Ns C m₁ → h₀.get? C = none → h₀.get? D = none → C ≠ L → D ≠ L → C ≠ D → (∀ p ∈ news, p.1 ≠ C) → Fin ys s₁ → RR (.ref D) C (.ok .next) s₁) :
    wpAny (model prog w) A (newList []) (fun acc s₃ => wpAny (model prog w) A (newFunctionEnv scope env.globals cl [] env.qual none .none (some env)) (fun cenv s₄ =>
      codeAny (model prog w) A (.compStart (.ListComp elt [⟨target, iter, [], 0⟩] scope pos) 0 it acc { cenv with scope := relabel scope env }) (RR acc cenv.locals) s₄) E s₃) E s₂ := by
  refine wpAny_newObj_type (wpAny_newFunctionEnv hcell (by intro y hy; simp at hy) (fun h₁ hns₁ hsb₁ => ?_) hkind)
  dsimp only at hns₁ hsb₁ ⊢
  generalize hH2 : s₂.heap.push { cls := .type "list", dict := none, data := .seq ([] : List Value).toArray } = H2 at hns₁ hsb₁ ⊢
  have hC : H2.objs.size = s₂.heap.objs.size + 1 := by rw [← hH2, Heap.size_push]
  have hDC : s₂.heap.objs.size ≠ H2.objs.size := by rw [hC]; exact Nat.ne_of_lt (Nat.lt_succ_self _)
  have below : ∀ b, b < s₂.heap.objs.size → b ≠ H2.objs.size ∧ b ≠ s₂.heap.objs.size := fun b hb => ⟨by rw [hC]; exact Nat.ne_of_lt (Nat.lt_succ_of_lt hb), Nat.ne_of_lt hb⟩
  have old : ∀ b o, s₂.heap.get? b = some o → h₁.get? b = some o := fun b o e => hsb₁.extBut b o (below b (Heap.lt_size e)).1 (Heap.get?_push_of_some _ (hH2 ▸ Heap.get?_push_of_some _ e))
  have hacc : h₁.get? s₂.heap.objs.size = some (lst []) := hsb₁.extBut _ _ hDC (Heap.get?_push_of_some _ (hH2 ▸ Heap.get?_push_size _ rfl))
  have fresh : ∀ a, s₂.heap.objs.size ≤ a → s₂.heap.get? a = none := fun a ha => by
    cases e : s₂.heap.get? a with
    | none => rfl
    | some o' => exact absurd (Heap.lt_size e) (Nat.not_lt.mpr ha)
  have fresh₀ : ∀ a, s₂.heap.objs.size ≤ a → h₀.get? a = none := fun a ha => by
    cases e : h₀.get? a with
    | none => rfl
    | some o' => have := F.keep a o' e; rw [fresh a ha] at this; cases this
  have hD₀ : h₀.get? s₂.heap.objs.size = none := fresh₀ _ (Nat.le_refl _)
  have hC₀ : h₀.get? H2.objs.size = none := fresh₀ _ (by rw [hC]; exact Nat.le_succ _)
  have hLlt : L < s₂.heap.objs.size := F.ns.lt
  have hDL : s₂.heap.objs.size ≠ L := Ne.symm (below L hLlt).2
  have hCL : H2.objs.size ≠ L := Ne.symm (below L hLlt).1
  have hCle : s₂.heap.objs.size ≤ H2.objs.size := by rw [hC]; exact Nat.le_succ _
  have offD : Off1 s₂.heap.objs.size news := by
    have : Off3 H2.objs.size H2.objs.size s₂.heap.objs.size news := Off3.of fun p hp => ⟨(below _ (Heap.lt_size (N p hp).1)).1, (below _ (Heap.lt_size (N p hp).1)).1, (below _ (Heap.lt_size (N p hp).1)).2⟩
    exact this.one
  have offC : ∀ p ∈ news, p.1 ≠ H2.objs.size := fun p hp => (below _ (Heap.lt_size (N p hp).1)).1
  have offD' : ∀ p ∈ news, p.1 ≠ s₂.heap.objs.size := fun p hp => (below _ (Heap.lt_size (N p hp).1)).2
  have loop : ∀ s₃ : Shared, s₃ = { s₂ with heap := h₁, toks := s₂.toks + ([] : List (Str × Value)).length } →
      codeAny (model prog w) A (.compLoop (.ListComp elt [⟨target, iter, [], 0⟩] scope pos) 0 it (.ref s₂.heap.objs.size) (compEnvC scope cl H2.objs.size env))
        (RR (.ref s₂.heap.objs.size) H2.objs.size) s₃ := by
    rintro s₃ rfl
    refine kcp_loop
      (fun k s' => ∃ i ys m', i ≤ n ∧ k = n + 1 - i ∧ ys.length = i ∧ J i ys s' ∧ Fr h₀ L s'.heap m ∧ s'.heap.Ns H2.objs.size m' ∧ News h₀ L s'.heap ((s₂.heap.objs.size, lst ys) :: news)) ?_ (n + 1)
      ⟨0, [], _, Nat.zero_le _, rfl, rfl, start _ _ old, F.keeps old, hns₁, fun p hp => ?_⟩
    · rintro k s' ⟨i, ys, m', hi, rfl, hyl, hJ, F', hn', N'⟩
      refine wpAny_mono (turn s₂.heap.objs.size H2.objs.size i ys s' m' _ (Nat.le_refl _) hCle hDC hDL hCL hD₀ hC₀ hi hyl hJ F' hn' N') (fun r s₁ h₁' => ?_) fun _ _ e => e
      cases r with
      | none =>
        obtain ⟨m₁, F₁, hn₁, N₁, fin⟩ := h₁'
        exact hRR _ _ ys s₁ m₁ F₁ N₁ offD hn₁ hC₀ hD₀ hCL hDL (Ne.symm hDC) offC fin
      | some v =>
        obtain ⟨hlt, h₁'⟩ := h₁'
        refine wpAny_mono h₁' (fun _ s₀ h₀' => wpAny_mono h₀' (fun _ s₅ h₅ => wpAny_mono h₅ (fun x s₄ h₄ => ?_) fun _ _ e => e) fun _ _ e => e) fun _ _ e => e
        obtain ⟨m₄, F₄, hn₄, N₄, hJ₄⟩ := h₄
        have zD := (N₄ (s₂.heap.objs.size, lst ys) List.mem_cons_self).1
        refine append_at (hsz := by show ys.toArray.size ≤ sizeLine; rw [List.size_toArray, hyl]; exact Nat.le_trans hi hsz) zD fun h₆ hs₆ hD₆ => ?_
        refine ⟨n + 1 - (i + 1), by omega, i + 1, ys ++ [x], m₄, hlt, rfl, by rw [List.length_append, List.length_singleton, hyl], hJ₄ h₆ hs₆, F₄.change hs₆ hDL hD₀, hn₄.sameBut hs₆ (Ne.symm hDC), fun p hp => ?_⟩
        rcases List.mem_cons.mp hp with rfl | hp
        · exact ⟨hD₆.trans (congrArg some (lst_snoc ys x)), hDL, hD₀⟩
        · exact ⟨hs₆.extBut _ _ (offD' p hp) (N₄ p (List.mem_cons_of_mem _ hp)).1, (N₄ p (List.mem_cons_of_mem _ hp)).2⟩
    · rcases List.mem_cons.mp hp with rfl | hp
      · exact ⟨hacc, hDL, hD₀⟩
      · exact ⟨old _ _ (N p hp).1, (N p hp).2⟩
  exact codeAny_compStart_list (loop _ rfl) (self _ _ _ _ old (loop _ rfl))
end
end Mine
end
section
open PySem PySem.W PyProof.Rows PySem.Calls PyProof.Rows.LCg
set_option maxRecDepth 100000
namespace Mine
section
variable {prog : Program} {w : World} {A : Around} {E : Value → Shared → Prop} {s : Shared} {h₀ : Heap} {L : Addr} {m : Str → Option Value} {env : Env}
/-- what a source of a list comprehension must bring: an invariant of its turns -/
noncomputable def GSrc (prog : Program) (w : World) (A : Around) (h₀ : Heap) (L : Addr) (m : Str → Option Value) (env : Env) (target elt : Expr) (scope : Scope) (cl : List (Str × Addr)) (news : List (Addr × Obj)) (Fin : List Value → Shared → Prop) (it : Value) (s₂ : Shared) : Prop :=
  ∃ (J : Nat → List Value → Shared → Prop) (n : Nat), n ≤ sizeLine ∧ Fr h₀ L s₂.heap m ∧ News h₀ L s₂.heap news ∧
    (∀ h tk (Q E' : Value → Shared → Prop), (∀ b o, s₂.heap.get? b = some o → h.get? b = some o) → Q it { s₂ with heap := h, toks := tk } → wpAny (model prog w) A (pyIter it) Q E' { s₂ with heap := h, toks := tk }) ∧
    (∀ h tk, (∀ b o, s₂.heap.get? b = some o → h.get? b = some o) → J 0 [] { s₂ with heap := h, toks := tk }) ∧
    (∀ D C i ys (s' : Shared) m' (Er : Value → Shared → Prop), s₂.heap.objs.size ≤ D → s₂.heap.objs.size ≤ C → D ≠ C → D ≠ L → C ≠ L → h₀.get? D = none → h₀.get? C = none → i ≤ n → ys.length = i → J i ys s' → Fr h₀ L s'.heap m → s'.heap.Ns C m' → News h₀ L s'.heap ((D, lst ys) :: news) →
      wpAny (model prog w) A (pyNext it) (GTurn prog w A h₀ L m target elt it (compEnvC scope cl C env) news J Fin n D C i ys Er) Er s')
theorem g_assign {target elt iter : Expr} {y : Str} {py : Pos} {scope : Scope} {cl : List (Str × Addr)} {pos spos : Pos} {Q : Flow → Shared → Prop} (news : List (Addr × Obj)) (Fin : List Value → Shared → Prop) (hLe : env.locals = L)
    (hsw : swapsWith (.ListComp elt [⟨target, iter, [], 0⟩] scope pos) (some (.Name y py)) spos.line env = pure true)
    (hclos : closureFor scope env = pure cl) (hcell : ∀ z ∈ scope.names, z.2 ≠ .cell) (hkind : scope.kind = .function)
    (hnames : ∀ z ∈ scope.names, z.2 = .local → scope.names.lookup z.1 = some .local)
    (hy : env.kindOf y = some .local) (hp : (env.scope.kind == .class || (env.scope.kind == .module && env.locals != env.globals)) = false)
    (h : wpAny (model prog w) A (eval iter env) (fun xv s₁ => wpAny (model prog w) A (pyIter xv) (GSrc prog w A h₀ L m env target elt scope cl news Fin) E s₁) E s)
    (fin : ∀ D ys s₁ h' tk, Fin ys s₁ → Fr h₀ L h' (fun z => if z = y then some (.ref D) else m z) → News h₀ L h' ((D, lst ys) :: news) → Off1 D news → Q .next { s₁ with heap := h', toks := tk })
    (hs : ∀ x, foldedSetIterable iter env x = pure x := by intro _; rfl) :
    wpAny (model prog w) A (exec (.Assign [.Name y py] (.ListComp elt [⟨target, iter, [], 0⟩] scope pos) spos) env) Q E s := by
  subst hLe
  rw [exec_Assign_Name_used _ _ _ _ hsw]
  refine wpAny_bind (wpAny_standAt (wpAny_bind ?_))
  show wpAny _ A (do let _ ← comprehension (.ListComp elt [⟨target, iter, [], 0⟩] scope pos) scope env _ (newList []) false (eval iter env) (some (assign (.Name y py) env))) _ _ s
  refine wpAny_bind (wpAny_mono (wpAny_comprehension_free (use := some (assign (.Name y py) env)) (Q := fun _ s' => Q .next s') rfl hs hclos hkind hnames
    (wpAny_mono h (fun xv s₁ h₁ => wpAny_mono h₁ (fun it s₂ h₂ => ?_) fun _ _ e => e) fun _ _ e => e)) (fun _ s' hq => wpAny_pure (wpAny_pure hq)) fun _ _ e => e)
  obtain ⟨J, n, hsz, F, N, self, start, turn⟩ := h₂
  refine g_block J Fin n hsz hcell hkind F N self start turn ?_
  intro D C ys s₃ m₁ F' N' o1 hn hC₀ hD₀ hCL hDL hCD offC hfin
  show wpAny _ A (assign (.Name y py) env (.ref D)) _ _ _
  refine wpAny_assign_Name (wpAny_storeName_local hy F'.ns (fun h₂ hn₂ hs₂ => ?_) hp)
  have hL₀ : h₀.get? env.locals = none := Heap.get?_none_of_le F'.above
  have F₂ : Fr h₀ env.locals h₂ (fun z => if z = y then some (.ref D) else m z) := ⟨hn₂, fun b o e => hs₂.extBut b o (fun q => by rw [q, hL₀] at e; cases e) (F'.keep b o e), F'.above⟩
  refine ⟨m₁, hn.sameBut hs₂ hCL, fun h'' hs'' => fin D ys s₃ h'' _ hfin (F₂.change hs'' hCL hC₀) (fun p hp => ?_) o1⟩
  have z : h₂.get? p.1 = some p.2 := hs₂.extBut _ _ (N' p hp).2.1 (N' p hp).1
  refine ⟨hs''.extBut _ _ ?_ z, (N' p hp).2⟩
  rcases List.mem_cons.mp hp with rfl | hp
  · exact Ne.symm hCD
  · exact offC p hp
/-- the same, the name a cell -/
theorem g_assign_cell {target elt iter : Expr} {y : Str} {py : Pos} {scope : Scope} {cl cl₀ : List (Str × Addr)} {pos spos : Pos} {cn : Str} {cs : Scope} {a c : Addr} {ccd : Value} {o : Obj} {v₀ : Option Value} {Q : Flow → Shared → Prop} (news : List (Addr × Obj)) {g : Obj → List (Addr × Obj)} (Fin : List Value → Shared → Prop)
    (hsw : swapsWith (.ListComp elt [⟨target, iter, [], 0⟩] scope pos) (some (.Name y py)) spos.line (envX cn cs L a ccd cl₀) = pure true)
    (hclos : closureFor scope (envX cn cs L a ccd cl₀) = pure cl) (hcell : ∀ z ∈ scope.names, z.2 ≠ .cell) (hkind : scope.kind = .function)
    (hnames : ∀ z ∈ scope.names, z.2 = .local → scope.names.lookup z.1 = some .local)
    (hk : cs.kind = .function) (hx : (envX cn cs L a ccd cl₀).kindOf y = some .cell) (hc : cl₀.lookup y = some c) (U : UpdF c o news g) (hd : o.data = .cell v₀)
    (h : wpAny (model prog w) A (eval iter (envX cn cs L a ccd cl₀)) (fun xv s₁ => wpAny (model prog w) A (pyIter xv) (GSrc prog w A h₀ L m (envX cn cs L a ccd cl₀) target elt scope cl news Fin) E s₁) E s)
    (fin : ∀ D ys s₁ h' tk o', Fin ys s₁ → Fr h₀ L h' m → News h₀ L h' ((D, lst ys) :: g o') → o'.data = .cell (some (.ref D)) → Off1 D news → Q .next { s₁ with heap := h', toks := tk })
    (hs : ∀ x, foldedSetIterable iter (envX cn cs L a ccd cl₀) x = pure x := by intro _; rfl) :
    wpAny (model prog w) A (exec (.Assign [.Name y py] (.ListComp elt [⟨target, iter, [], 0⟩] scope pos) spos) (envX cn cs L a ccd cl₀)) Q E s := by
  rw [exec_Assign_Name_used _ _ _ _ hsw]
  refine wpAny_bind (wpAny_standAt (wpAny_bind ?_))
  show wpAny _ A (do let _ ← comprehension (.ListComp elt [⟨target, iter, [], 0⟩] scope pos) scope (envX cn cs L a ccd cl₀) _ (newList []) false (eval iter (envX cn cs L a ccd cl₀)) (some (assign (.Name y py) (envX cn cs L a ccd cl₀)))) _ _ s
  refine wpAny_bind (wpAny_mono (wpAny_comprehension_free (use := some (assign (.Name y py) (envX cn cs L a ccd cl₀))) (Q := fun _ s' => Q .next s') rfl hs hclos hkind hnames
    (wpAny_mono h (fun xv s₁ h₁ => wpAny_mono h₁ (fun it s₂ h₂ => ?_) fun _ _ e => e) fun _ _ e => e)) (fun _ s' hq => wpAny_pure (wpAny_pure hq)) fun _ _ e => e)
  obtain ⟨J, n, hsz, F, N, self, start, turn⟩ := h₂
  refine g_block J Fin n hsz hcell hkind F N self start turn ?_
  intro D C ys s₃ m₁ F' N' o1 hn hC₀ hD₀ hCL hDL hCD offC hfin
  show wpAny _ A (assign (.Name y py) (envX cn cs L a ccd cl₀) (.ref D)) _ _ _
  obtain ⟨own, rest, hnews, hg, u1, u2⟩ := U.split
  have hcm : (c, o) ∈ news := by rw [hnews]; exact List.mem_append_right _ (.head _)
  have hcD : c ≠ D := (Off3.mem (l := news) (I := D) (C := D) (D := D) (by
    refine Off3.of fun p hp => ?_
    have : ∀ l : List (Addr × Obj), Off1 D l → ∀ q ∈ l, q.1 ≠ D := by
      intro l
      induction l with
      | nil => intro _ q hq; cases hq
      | cons r l ih =>
        intro ho q hq
        rcases List.mem_cons.mp hq with rfl | hq
        · exact ho.1
        · exact ih ho.2 q hq
    have z := this news o1 p hp
    exact ⟨z, z, z⟩) _ hcm).1
  have hcC : c ≠ C := offC _ hcm
  obtain ⟨oC, heC, hoC⟩ := ns_obj hn
  have NC : News h₀ L s₃.heap ((C, oC) :: (D, lst ys) :: news) := fun p hp => by
    rcases List.mem_cons.mp hp with rfl | hp
    · exact ⟨heC, hCL, hC₀⟩
    · exact N' p hp
  refine wpAny_assign_Name (storeX_C (g := fun o' => (C, oC) :: (D, lst ys) :: g o') F' NC hc (.tail (Ne.symm hcC) (.tail (Ne.symm hcD) U)) hd (fun h₂ o' F₂ N₂ hd₂ => ?_) hk hx)
  have zC := (N₂ (C, oC) List.mem_cons_self).1
  refine ⟨m₁, hoC.ns zC, fun h'' hs'' => fin D ys s₃ h'' _ o' hfin (F₂.change hs'' hCL hC₀) (fun p hp => ?_) hd₂ o1⟩
  have hp2 : p ∈ (C, oC) :: (D, lst ys) :: g o' := List.mem_cons_of_mem _ hp
  refine ⟨hs''.extBut _ _ ?_ (N₂ p hp2).1, (N₂ p hp2).2⟩
  rcases List.mem_cons.mp hp with rfl | hp
  · exact Ne.symm hCD
  · rw [hg] at hp
    rcases List.mem_append.mp hp with hp | hp
    · exact offC p (by rw [hnews]; exact List.mem_append_left _ hp)
    · rcases List.mem_cons.mp hp with rfl | hp
      · exact hcC
      · exact offC p (by rw [hnews]; exact List.mem_append_right _ (List.mem_cons_of_mem _ hp))
end
end Mine
end
section
open PySem PySem.W PyProof.Rows PySem.Calls PyProof.Rows.LCg
set_option maxRecDepth 100000
namespace Mine
/-- the words of the heap part at 22, entry by entry -/
noncomputable def exEs (w : World) : List DictEntry := match (KK w).lookup 22 with
  | some ⟨_, _, .dict es _, _⟩ => es.toList
  | _ => []
noncomputable def exPair (e : DictEntry) : Str × Value := (match e.key with | .str y _ => y | _ => Str.empty, e.val)
noncomputable def exOk (e : DictEntry) : Bool := match e.key, e.val with
  | .str y _, .int n _ => decide (7 ≤ n) && decide (n ≤ 54) && (y == opAt n)
  | _, _ => false
noncomputable def exHas (es : List DictEntry) (n : Int) : Bool := es.any fun e => match e.val with
  | .int k _ => decide (k = n)
  | _ => false
theorem ex_lookup (w : World) : ∃ es n, (KK w).lookup 22 = some ⟨.type "dict", none, .dict es n, #[]⟩ ∧ es.toList = exEs w ∧ KeysLit w.params es.toList := by
  refine ⟨_, _, rfl, rfl, ?_⟩
  k_keys
theorem ex_ok (w : World) : (exEs w).all exOk = true := by kernel_rfl
theorem ex_has (w : World) : ((List.range 48).all fun i => exHas (exEs w) (7 + (i : Int))) = true := by rfl
theorem ex_len (w : World) : (exEs w).length = 48 := by rfl
noncomputable def nodupB : List Str → Bool
  | [] => true
  | a :: l => !l.contains a && nodupB l
theorem nodupB_nodup : ∀ {l : List Str}, nodupB l = true → l.Nodup
  | [], _ => List.nodup_nil
  | a :: l, h => by
    rw [nodupB, Bool.and_eq_true, Bool.not_eq_true'] at h
    refine List.nodup_cons.mpr ⟨fun hm => ?_, nodupB_nodup h.2⟩
    rw [List.contains_iff_mem.mpr hm] at h
    cases h.1
noncomputable def exKV (w : World) : List (Str × Value) := (exEs w).map exPair
theorem ex_nodup (w : World) : nodupB ((exKV w).map (·.1)) = true := by kernel_rfl
theorem ex_at {prog : Program} {w : World} {h : Heap} (X : (KK w).In h) : ∃ ep, h.DictAt (strKind prog w) 22 (exKV w) ep := by
  obtain ⟨es, n, hl, he, hk⟩ := ex_lookup w
  have hkey : ∀ e ∈ es.toList, ∃ x t, e.key = .str x t ∧ e.hash = hashStr w x := hk.all
  have hp : ∀ l : List DictEntry, (∀ e ∈ l, ∃ x t, e.key = .str x t ∧ e.hash = hashStr w x) → Pairs (strKind prog w) l (l.map exPair) := by
    intro l
    induction l with
    | nil => intro _; exact .nil
    | cons e l ih =>
      intro hl
      obtain ⟨x, t, e1, _⟩ := hl e List.mem_cons_self
      refine .cons ?_ rfl (ih fun e' he' => hl e' (List.mem_cons_of_mem _ he'))
      simp only [exPair, e1]
      exact strKind_is prog w x t
  refine ⟨n, _, es, X _ _ hl, ⟨rfl, rfl, rfl⟩, rfl, ?_, ?_, nodupB_nodup (ex_nodup w)⟩
  · intro e hm
    obtain ⟨x, t, e1, e2⟩ := hkey e (Array.mem_toList_iff.mpr hm)
    exact ⟨x, by rw [e1]; exact strKind_is prog w x t, e2⟩
  · rw [exKV, ← he]; exact hp _ hkey
theorem ex_row {w : World} {i : Nat} {k : Str} {x : Value} (h : (exKV w)[i]? = some (k, x)) : ∃ n t, x = .int n t ∧ 7 ≤ n ∧ n ≤ 54 ∧ k = opAt n := by
  rw [exKV, List.getElem?_map, Option.map_eq_some_iff] at h
  obtain ⟨e, he, hp⟩ := h
  have ok := List.all_eq_true.mp (ex_ok w) e (List.mem_of_getElem? he)
  unfold exOk at ok
  unfold exPair at hp
  cases h1 : e.key <;> cases h2 : e.val <;> rw [h1, h2] at ok <;> simp only [Bool.false_eq_true] at ok
  rename_i y t n u
  rw [h1, h2] at hp
  simp only [Prod.mk.injEq] at hp
  obtain ⟨rfl, rfl⟩ := hp
  simp only [Bool.and_eq_true, decide_eq_true_eq, beq_iff_eq] at ok
  exact ⟨n, u, rfl, ok.1.1, ok.1.2, ok.2⟩
theorem ex_all {w : World} {n : Int} (h0 : 7 ≤ n) (h1 : n ≤ 54) : ∃ (i : Nat) (x : Value), i < 48 ∧ (exKV w)[i]? = some (opAt n, x) := by
  have hh := List.all_eq_true.mp (ex_has w) (n - 7).toNat (List.mem_range.mpr (by omega))
  rw [show (7 : Int) + ((n - 7).toNat : Int) = n by omega] at hh
  obtain ⟨e, he, hv⟩ := List.any_eq_true.mp hh
  obtain ⟨i, hi⟩ := List.getElem?_of_mem he
  have hlt : i < 48 := by
    have := (List.getElem?_eq_some_iff.mp hi).1
    rwa [ex_len] at this
  have hx : (exKV w)[i]? = some (exPair e) := by rw [exKV, List.getElem?_map, hi]; rfl
  obtain ⟨k, t, e1, _, _, e2⟩ := ex_row (k := (exPair e).1) (x := (exPair e).2) hx
  refine ⟨i, (exPair e).2, hlt, ?_⟩
  rw [hx]
  have e3 : e.val = .int k t := e1
  rw [e3] at hv
  have : k = n := of_decide_eq_true hv
  rw [← this, ← e2]
/-- the dict of the signs by number -/
noncomputable def SgnKV (kvs : List (Int × Value)) : Prop := ∀ n, 7 ≤ n → n ≤ 54 → ∃ t, valueAt kvs n = some (.str (opAt n) t)
noncomputable def sFK (v : Value) (k : Int) : Prop := ∃ y t, v = .str y t ∧ y = opAt k ∧ 7 ≤ k ∧ k ≤ 54
theorem valueAt_map (k n : Int) (v : Value) : ∀ kvs : List (Int × Value), valueAt (kvs.map fun kv => if kv.1 = k then (kv.1, v) else kv) n = if n = k then (if kvs.any (fun kv => kv.1 = k) then some v else none) else valueAt kvs n
  | [] => by simp [valueAt]
  | a :: l => by
    have ih := valueAt_map k n v l
    unfold valueAt at ih ⊢
    simp only [List.map_cons, List.find?_cons, List.any_cons]
    by_cases ha : a.1 = k
    · simp only [ha, if_true]
      by_cases hn : n = k
      · subst hn; simp
      · have hn' : ¬ k = n := fun e => hn e.symm
        simp only [hn', decide_false, hn, if_false] at ih ⊢
        exact ih
    · simp only [ha, if_false, decide_false, Bool.false_or]
      by_cases hb : a.1 = n
      · have hn : ¬ n = k := fun e => ha (hb.trans e)
        simp [hb, hn]
      · simp only [hb, decide_false]
        exact ih
theorem valueAt_snoc (k n : Int) (v : Value) : ∀ kvs : List (Int × Value), kvs.any (fun kv => kv.1 = k) = false → valueAt (kvs ++ [(k, v)]) n = if n = k then some v else valueAt kvs n
  | [], _ => by
    unfold valueAt
    by_cases h : k = n
    · simp [h]
    · have h' : ¬ n = k := fun e => h e.symm
      simp [h, h']
  | a :: l, hh => by
    rw [List.any_cons, Bool.or_eq_false_iff] at hh
    have ih := valueAt_snoc k n v l hh.2
    have ha : ¬ a.1 = k := of_decide_eq_false hh.1
    unfold valueAt at ih ⊢
    simp only [List.cons_append, List.find?_cons]
    by_cases hb : a.1 = n
    · have hn : ¬ n = k := fun e => ha (hb.trans e)
      simp [hb, hn]
    · simp only [hb, decide_false]
      exact ih
theorem valueAt_stored (kvs : List (Int × Value)) (k n : Int) (v : Value) : valueAt (stored kvs k v) n = if n = k then some v else valueAt kvs n := by
  unfold stored
  split
  · rename_i h
    rw [valueAt_map]
    simp [h]
  · rename_i h
    exact valueAt_snoc k n v kvs (Bool.eq_false_iff.mpr h)
theorem sgn_fold {l : List Value} {kvs : List (Int × Value)} (h : StoredAll sFK (fun v y => y = v) l kvs) : ∀ n, 7 ≤ n → n ≤ 54 → (∃ v ∈ l, sFK v n) → ∃ t, valueAt kvs n = some (.str (opAt n) t) := by
  induction h with
  | nil => rintro n _ _ ⟨v, hv, _⟩; cases hv
  | @snoc l kvs v k y _ hk hy ih =>
    rintro n h0 h1 ⟨v', hv', hn⟩
    obtain ⟨z, t, rfl, rfl, k0, k1⟩ := hk
    rw [valueAt_stored]
    by_cases hnk : n = k
    · rw [if_pos hnk, hy, hnk]; exact ⟨t, rfl⟩
    · rw [if_neg hnk]
      rcases List.mem_append.mp hv' with hv' | hv'
      · exact ih n h0 h1 ⟨v', hv', hn⟩
      · rw [List.mem_singleton] at hv'
        obtain ⟨z', t', e1, e2, _, _⟩ := hn
        rw [hv'] at e1
        injection e1 with e1 _
        exact absurd (opAt_inj h0 h1 k0 k1 (e2.symm.trans e1.symm)) hnk
theorem sys_there {mean : ExcName → Option Value} {mg mb : Str → Option Value} {h : Heap} (T : TopM mean mg mb h) : ∃ o, h.get? sysModules = some o := by
  obtain ⟨_, hm, _⟩ := (T.seer (by rfl)).mods
  obtain ⟨o, _, _, ho, _⟩ := hm
  exact ⟨o, ho⟩
section
variable {prog : Program} {w : World} {A : Around} {E : Value → Shared → Prop} {s : Shared} {h₀ : Heap} {L : Addr} {m : Str → Option Value} {news : List (Addr × Obj)} {cn : Str} {cs : Scope} {a : Addr} {ccd : Value} {cl : List (Str × Addr)}
  {loose : List Str} {p : Program} {mean : ExcName → Option Value} {mg mb : Str → Option Value}
noncomputable abbrev exTok : Str := Str.ofString "EXACT_TOKEN_TYPES"
noncomputable abbrev oneTok : Str := Str.ofString "one"
noncomputable abbrev sgScope : Scope := { kind := .function, names := [(Str.ofString ".0", .local), (oneTok, .local), (exTok, .globalImplicit)], isGenerator := false, isCoroutine := false }
theorem signs_c {p1 p2 p3 p4 p5 px pos : Pos} {Q : Value → Shared → Prop} (hh : A.handled = none) (hk : cs.kind = .function)
    (hx : (envX cn cs L a ccd cl).kindOf exTok = some .globalImplicit) (F : Fr h₀ L s.heap m) (X : (KK w).In h₀) (T : TopRead p loose mg mb h₀) (hS : ∃ o, h₀.get? sysModules = some o) (N : News h₀ L s.heap news)
    (h : ∀ D o h' tk kvs, Fr h₀ L h' m → News h₀ L h' ((D, o) :: news) → (∀ q ∈ news, q.1 ≠ D) → (D == sysModules) = false → o.IsDictOf (intKind prog w) kvs → SgnKV kvs → Q (.ref D) { s with heap := h', toks := tk }) :
    wpAny (model prog w) A (eval (.DictComp (.Subscript (.Name exTok p1) (.Name oneTok p2) p3) (.Name oneTok p4) [⟨.Name oneTok px, .Name exTok p5, [], 0⟩] sgScope pos) (envX cn cs L a ccd cl)) Q E s := by
  have hglob : mg exTok = some (.ref 22) := mg_of X T.g (by rfl)
  obtain ⟨ep, hd₀⟩ := ex_at (prog := prog) X
  have hd : s.heap.DictAt (strKind prog w) 22 (exKV w) ep := hd₀.keep F.keep
  have hfin : ∀ (s₂ : Shared) (I : Addr), s₂ = { s with heap := s.heap.push { cls := .type "dict_keyiterator", data := .fields #[.ref 22, .int 0 0, .int (exKV w).length 0, .int ep 0] } } → I = s.heap.objs.size →
      ∀ D h' tk kvs (vs : List Value), s₂.heap.get? D = none → h'.DictOf (intKind prog w) D kvs → vs.length = (exKV w).length → (∀ (j : Nat) (v : Value), vs[j]? = some v → ∃ k x, (exKV w)[j]? = some (k, x) ∧ (strKind prog w).is k v = true) →
        StoredAll sFK (fun v y => y = v) (vs.filter fun _ => true) kvs → (∀ b o, b ∉ [I] → s₂.heap.get? b = some o → h'.get? b = some o) → Q (.ref D) { s₂ with heap := h', toks := tk } := by
    rintro s₂ I rfl rfl D h' tk kvs vs hD hdict hlen hP hst hk'
    have keep : ∀ b o, s.heap.get? b = some o → h'.get? b = some o := fun b o e => hk' b o (fun hm => by rw [List.mem_singleton] at hm; exact absurd (Heap.lt_size e) (by rw [hm]; exact Nat.lt_irrefl _)) (Heap.get?_push_of_some _ e)
    have hDs : s.heap.get? D = none := by
      cases e : s.heap.get? D with
      | none => rfl
      | some o => rw [Heap.get?_push_of_some _ e] at hD; cases hD
    obtain ⟨o, ho, hdo⟩ := Heap.dictOf_iff.mp hdict
    have hD₀ : h₀.get? D = none := by
      cases e : h₀.get? D with
      | none => rfl
      | some o' => rw [F.keep _ _ e] at hDs; cases hDs
    have hDL : D ≠ L := by
      rintro rfl
      obtain ⟨oL, _, _, hL, _⟩ := F.ns
      rw [hL] at hDs; cases hDs
    refine h D o h' tk kvs (F.keeps keep) ?_ ?_ ?_ hdo ?_
    · intro q hq
      rcases List.mem_cons.mp hq with rfl | hq
      · exact ⟨ho, hDL, hD₀⟩
      · exact ⟨keep _ _ (N q hq).1, (N q hq).2⟩
    · rintro q hq rfl
      rw [(N q hq).1] at hDs; cases hDs
    · obtain ⟨oS, hS⟩ := hS
      rw [beq_eq_false_iff_ne]
      rintro rfl
      rw [F.keep _ _ hS] at hDs; cases hDs
    · intro n n0 n1
      refine sgn_fold hst n n0 n1 ?_
      obtain ⟨i, x, hi, hx⟩ := ex_all (w := w) n0 n1
      have hl : i < vs.length := by rw [hlen, exKV, List.length_map, ex_len]; exact hi
      have hv := List.getElem?_eq_getElem hl
      obtain ⟨k, x', e1, e2⟩ := hP i vs[i] hv
      rw [hx] at e1
      simp only [Option.some.injEq, Prod.mk.injEq] at e1
      obtain ⟨t, ht⟩ := Value.isStrOf_shape e2
      exact ⟨vs[i], by simp [List.getElem_mem], opAt n, t, by rw [ht, e1.1], rfl, n0, n1⟩
  refine wpAny_DictComp_free (knd := intKind prog w) (p := fun _ => true) (FK := sFK) (FV := fun v y => y = v) (cl := []) (by rfl) (by decide) (by rfl) (by decide) (by rfl) ?_
  refine Name_function_global hk hx (loadGlobal_global (env := envX cn cs L a ccd cl) (T.g.keeps F.keep) hglob ?_) (by decide)
  refine wpAny_pyIter_dict (knd := strKind prog w) (by decide) hd ?_
  refine ⟨s.heap.objs.size, _, _, _, _, _, rfl, Walks.dictKeys hh _ 22 (Nat.ne_of_lt hd.lt_size) (exKV w) ep, ?_, ⟨⟨_, Heap.get?_push_size _ rfl, rfl, rfl⟩, hd.push _⟩, ?_, ⟨?_, ?_, ?_⟩, hfin _ _ rfl rfl⟩
  · rw [exKV, List.length_map, ex_len, sizeLine_eq]; decide
  · intro b hb
    show b < (s.heap.push _).objs.size
    rw [Heap.size_push]
    rcases List.mem_cons.mp hb with rfl | hb
    · exact Nat.lt_succ_self _
    · rw [List.mem_singleton.mp hb]; exact Nat.lt_succ_of_lt hd.lt_size
  · intro C i v s₃ m₃ E' _ _ _ _
    exact wpAny_tests_nil ⟨rfl, s₃.heap, s₃.toks, rfl, fun _ _ e => e⟩
  · rintro C i v s₃ m₃ E' ⟨k, x, hx', hkv⟩ _ hn hm hk'
    have keep : ∀ b o, s.heap.get? b = some o → s₃.heap.get? b = some o := fun b o e => hk' b o (fun hm => by rw [List.mem_singleton] at hm; exact absurd (Heap.lt_size e) (by rw [hm]; exact Nat.lt_irrefl _)) (Heap.get?_push_of_some _ e)
    obtain ⟨n, t, rfl, n0, n1, rfl⟩ := ex_row hx'
    obtain ⟨u, rfl⟩ := Value.isStrOf_shape hkv
    refine Subscript_ (Name_function_global (env := compEnvC sgScope [] C (envX cn cs L a ccd cl)) (by rfl) (by rfl) (loadGlobal_global (env := compEnvC sgScope [] C (envX cn cs L a ccd cl)) ((T.g.keeps F.keep).at' fun o e => keep _ o e) hglob ?_) (by decide))
    refine ldVarK hn hm ?_
    have hd₃ : s₃.heap.DictAt (strKind prog w) 22 (exKV w) ep := hd.keep keep
    refine subscriptTail_builtin hd₃.dictOf.typeIs slot_dict_getitem.lookup (wpAny_getItem_of hkv hd₃.dictOf.mapOf (valueAt_of_get hd₃.nodup hx') ?_)
    exact ⟨⟨n, intKind_is prog w n t, opAt n, u, rfl, rfl, n0, n1⟩, s₃.heap, _, rfl, fun _ _ e => e⟩
  · rintro C i v s₃ m₃ E' _ _ hn hm _
    exact ldVarK hn hm ⟨rfl, s₃.heap, s₃.toks, rfl, fun _ _ e => e⟩
end
end Mine
end
section
open PySem PySem.W PyProof.Rows PySem.Calls PyProof.Rows.LCg
set_option maxRecDepth 100000
namespace Mine
section
variable {prog : Program} {w : World} {A : Around} {E : Value → Shared → Prop} {s : Shared} {h₀ : Heap} {L : Addr} {m : Str → Option Value} {env : Env}
theorem draw_list {I l : Addr} {items : Array Value} (hh : A.handled = none) (hne : l ≠ I) : ∀ (k i : Nat) (s : Shared) (Q : List Value → Shared → Prop), s.heap.IsListIter I l i → s.heap.IsList l items → i + k ≤ items.size →
    (∀ h' tk, h'.IsListIter I l (i + k) → h'.IsList l items → (∀ b o, b ∉ [I] → s.heap.get? b = some o → h'.get? b = some o) → Q ((items.toList.drop i).take k) { s with heap := h', toks := tk }) → wpAny (model prog w) A (draw (.ref I) k) Q E s
  | 0, i, s, Q, h1, h2, _, hQ => wpAny_pure (by simpa using hQ s.heap s.toks h1 h2 fun _ _ _ e => e)
  | k + 1, i, s, Q, h1, h2, hle, hQ => by
    have hlt : i < items.size := by omega
    show wpAny _ _ (pyNext (.ref I) >>= _) Q E s
    refine wpAny_bind ((Walks.list hh I l hne items).item i s _ _ hlt ⟨h1, h2⟩ fun v h' tk hv st hk => ?_)
    refine wpAny_bind (wpAny_holding (draw_list hh hne k (i + 1) _ _ st.1 st.2 (by omega) fun h'' tk' a b c => wpAny_pure ?_))
    have hd : items.toList.drop i = v :: items.toList.drop (i + 1) := by
      rw [List.drop_eq_getElem_cons (by simpa using hlt)]
      congr 1
      rw [Array.getElem_toList]
      exact Option.some.inj ((Array.getElem?_eq_getElem hlt).symm.trans hv)
    have := hQ h'' tk' (by rw [show i + (k + 1) = i + 1 + k by omega]; exact a) b fun x o hx e => c x o hx (hk x o hx e)
    rw [hd, List.take_succ_cons] at this
    exact this
theorem unpack_list {l : Addr} {items : Array Value} {targets : List (Bool × (Value → Sem Unit))} {Q : Unit → Shared → Prop} (hh : A.handled = none) (hl : s.heap.IsList l items)
    (hn : targets.length = items.size) (hstar : targets.findIdx? (·.1) = none)
    (h : ∀ h' tk, (∀ b o, s.heap.get? b = some o → h'.get? b = some o) → wpAny (model prog w) A (assignInOrder (targets.map (·.2)) items.toList) Q E { s with heap := h', toks := tk }) :
    wpAny (model prog w) A (unpack (.ref l) targets) Q E s := by
  have hlt : l < s.heap.objs.size := by obtain ⟨o, ho, _⟩ := hl; exact Heap.lt_size ho
  have hne : l ≠ s.heap.objs.size := Nat.ne_of_lt hlt
  unfold unpack
  rw [hn, hstar]
  refine wpAny_bind (wpAny_holding ?_)
  unfold unpackItems
  refine wpAny_bind ?_
  unfold notIterableAtAll
  refine wpAny_bind (wpAny_specialOf hl.typeIs slot_list_iter.lookup ?_)
  refine wpAny_pure ?_
  simp only [Bool.false_eq_true, if_false]
  refine wpAny_bind (wpAny_holding (wpAny_pyIter_list hl ?_))
  refine wpAny_bind (wpAny_holding (draw_list hh hne items.size 0 _ _ ⟨_, Heap.get?_push_size _ rfl, rfl, rfl⟩ (hl.push _) (by omega) fun h₁ tk₁ hit₁ hl₁ hk₁ => ?_))
  have hall : List.take items.size (List.drop 0 items.toList) = items.toList := by
    rw [List.drop_zero]; exact List.take_of_length_le (by simp)
  rw [hall, if_neg (by simp)]
  refine wpAny_bind (wpAny_holding ((Walks.list hh s.heap.objs.size l hne items).done _ _ _ ⟨by simpa using hit₁, hl₁⟩ fun h₂ tk₂ hk₂ => ?_))
  simp only [Option.isSome_none, Bool.false_eq_true, if_false]
  refine wpAny_pure (h h₂ tk₂ fun b o e => ?_)
  have hb : b ∉ [s.heap.objs.size] := fun hm => by rw [List.mem_singleton] at hm; exact absurd (Heap.lt_size e) (by rw [hm]; exact Nat.lt_irrefl _)
  exact hk₂ b o hb (hk₁ b o hb (Heap.get?_push_of_some _ e))
theorem assign_list3 {x y z : Str} {px py pz tp : Pos} {kk : Nat} {l : Addr} {a b c : Value} {m : Str → Option Value} {n : Nat} {Q : Unit → Shared → Prop} (hh : A.handled = none) (hl : s.heap.get? l = some (listOf #[a, b, c] n))
    (hx : env.kindOf x = some .local) (hy : env.kindOf y = some .local) (hz : env.kindOf z = some .local) (hp : (env.scope.kind == .class || (env.scope.kind == .module && env.locals != env.globals)) = false) (hn : s.heap.Ns env.locals m)
    (h : ∀ (h' : Heap) (tk : Nat), h'.Ns env.locals (fun v => if v = z then some c else if v = y then some b else if v = x then some a else m v) → (∀ q o, q ≠ env.locals → s.heap.get? q = some o → h'.get? q = some o) → Q () { s with heap := h', toks := tk }) :
    wpAny (model prog w) A (assign (.Tuple [.Name x px, .Name y py, .Name z pz] kk tp) env (.ref l)) Q E s := by
  rw [arm_assign_Tuple]
  refine wpAny_bind (wpAny_standAt (unpack_list hh (items := #[a, b, c]) ⟨_, hl, rfl, n, rfl⟩ rfl rfl fun h₁ tk₁ up₁ => ?_))
  have hn₁ : h₁.Ns env.locals m := hn.at' fun o e => up₁ _ o e
  show wpAny _ _ (assignInOrder [assign (.Name x px) env, assign (.Name y py) env, assign (.Name z pz) env] [a, b, c]) _ _ _
  refine assignInOrder_cons (wpAny_assign_Name (wpAny_storeName_local hx hn₁ (fun h₂ hn₂ hs₂ => ?_) hp))
  refine assignInOrder_cons (wpAny_assign_Name (wpAny_storeName_local hy hn₂ (fun h₃ hn₃ hs₃ => ?_) hp))
  refine assignInOrder_cons (wpAny_assign_Name (wpAny_storeName_local hz hn₃ (fun h₄ hn₄ hs₄ => ?_) hp))
  refine assignInOrder_nil ?_
  exact h h₄ _ hn₄ fun q o hq e => hs₄.extBut q o hq (hs₃.extBut q o hq (hs₂.extBut q o hq (up₁ q o e)))
/-- the source of «made»: a list of lists of three -/
theorem made_src {elt : Expr} {x y z : Str} {px py pz tp : Pos} {kk : Nat} {scope : Scope} {cl : List (Str × Addr)} {news : List (Addr × Obj)} {pd : Addr} {its : List DItem} {nd : Nat} {f : DItem → Str} {xv : Value}
    (hxv : xv = .ref pd) (hh : A.handled = none) (hkind : scope.kind = .function) (hx : scope.names.lookup x = some .local) (hy : scope.names.lookup y = some .local) (hz : scope.names.lookup z = some .local) (hne : x ≠ y ∧ x ≠ z ∧ y ≠ z) (hsz : its.length ≤ sizeLine)
    (F : Fr h₀ L s.heap m) (N : News h₀ L s.heap news) (hpd : (pd, listOf (itRefs its).toArray nd) ∈ news) (hits : ∀ i ∈ its, (i.a, i.obj) ∈ news)
    (turn : ∀ (i : DItem) I oI C oC D m₂ ys h tk (E' : Value → Shared → Prop), i ∈ its → NsObj oC m₂ → m₂ x = some (.int i.n i.tn) → m₂ y = some (.str i.l i.tl) → m₂ z = some (.str i.t i.tt) → Fr h₀ L h m → News h₀ L h ((I, oI) :: (C, oC) :: (D, lst ys) :: news) → Off3 I C D news → ((@Ne Nat I C) ∧ (@Ne Nat I D) ∧ (@Ne Nat C D)) → KPfMark →
      wpAny (model prog w) A (eval elt (compEnvC scope cl C env)) (CompEnd h₀ L m { s with heap := h, toks := tk } I oI C oC D (lst ys) (fun _ => True) (fun v news' => news' = news ∧ ∃ t, v = .str (f i) t)) E' { s with heap := h, toks := tk }) :
    wpAny (model prog w) A (pyIter xv) (GSrc prog w A h₀ L m env (.Tuple [.Name x px, .Name y py, .Name z pz] kk tp) elt scope cl news (fun ys s₁ => StrsAre ys (its.map f) ∧ ∃ h tk, s₁ = { s with heap := h, toks := tk })) E s := by
  subst hxv
  have hl : s.heap.IsList pd (itRefs its).toArray := ⟨_, (N _ hpd).1, rfl, nd, rfl⟩
  have hlt : pd < s.heap.objs.size := Heap.lt_size (N _ hpd).1
  refine wpAny_pyIter_list hl ?_
  have up : ∀ b o, s.heap.get? b = some o → (s.heap.push { cls := .type "list_iterator", data := .fields #[.ref pd, .int 0 0] }).get? b = some o := fun b o e => Heap.get?_push_of_some _ e
  have hI₀ : h₀.get? s.heap.objs.size = none := next_is_new F
  have hIL : L ≠ s.heap.objs.size := Nat.ne_of_lt F.ns.lt
  refine ⟨fun i ys s' => StrsAre ys ((its.take i).map f) ∧ s'.heap.IsListIter s.heap.objs.size pd i ∧ ∃ h tk, s' = { s with heap := h, toks := tk }, its.length, hsz, F.keeps up, N.grown up, ?_, ?_, ?_⟩
  · intro h tk Q E' hk hq
    exact wpAny_pyIter_listiter (show Heap.IsListIter h s.heap.objs.size pd 0 from ⟨_, hk _ _ (Heap.get?_push_size _ rfl), rfl, rfl⟩) hq
  · intro h tk hk
    exact ⟨by simpa using StrsAre.nil, ⟨_, hk _ _ (Heap.get?_push_size _ rfl), rfl, rfl⟩, h, tk, rfl⟩
  · rintro D C i ys s' m' Er hDle hCle hDC hDL hCL hD₀ hC₀ hi hyl ⟨hys, hit, h', tk', rfl⟩ F' hn' N'
    have hIlt : s.heap.objs.size < (s.heap.push { cls := .type "list_iterator", data := .fields #[.ref pd, .int 0 0] }).objs.size := by rw [Heap.size_push]; exact Nat.lt_succ_self _
    have hID : s.heap.objs.size ≠ D := Nat.ne_of_lt (Nat.lt_of_lt_of_le hIlt hDle)
    have hIC : s.heap.objs.size ≠ C := Nat.ne_of_lt (Nat.lt_of_lt_of_le hIlt hCle)
    have off : ∀ p ∈ news, p.1 ≠ s.heap.objs.size ∧ p.1 ≠ C ∧ p.1 ≠ D := fun p hp => by
      have h1 := Heap.lt_size (N p hp).1
      exact ⟨Nat.ne_of_lt h1, Nat.ne_of_lt (Nat.lt_of_lt_of_le (Nat.lt_trans h1 hIlt) hCle), Nat.ne_of_lt (Nat.lt_of_lt_of_le (Nat.lt_trans h1 hIlt) hDle)⟩
    have hl' : h'.IsList pd (itRefs its).toArray := ⟨_, (N' _ (List.mem_cons_of_mem _ hpd)).1, rfl, nd, rfl⟩
    have hlen : (itRefs its).toArray.size = its.length := by simp [itRefs]
    by_cases hlt' : i < its.length
    · refine (Walks.list hh s.heap.objs.size pd (Nat.ne_of_lt hlt) (itRefs its).toArray).item i _ _ _ (by rw [hlen]; exact hlt') ⟨hit, hl'⟩ fun v h₂ tk₂ hv st₂ hk₂ => ?_
      refine ⟨hlt', letGo_listiter st₂.1 ?_⟩
      have hve : v = .ref its[i].a := by
        have : (itRefs its)[i]? = some v := by simpa using hv
        rw [itRefs, List.getElem?_map, List.getElem?_eq_getElem hlt'] at this
        exact (Option.some.inj this).symm
      rw [hve]
      have hmem : its[i] ∈ its := List.getElem_mem hlt'
      have hob := hits _ hmem
      have hob' : h₂.get? its[i].a = some its[i].obj := hk₂ _ _ (by simpa using (off _ hob).1) (N' _ (List.mem_cons_of_mem _ hob)).1
      refine assign_list3 (env := compEnvC scope cl C env) hh hob' (lookup_relabel_local hx) (lookup_relabel_local hy) (lookup_relabel_local hz) (by simp [compEnvC, relabel, hkind]) (hn'.at' fun o e => hk₂ _ o (by simpa using Ne.symm hIC) e) fun h₃ tk₃ hn₃ hk₃ => ?_
      have up₃ : ∀ c o, c ≠ s.heap.objs.size → c ≠ C → h'.get? c = some o → h₃.get? c = some o := fun c o h1 h2 e => hk₃ c o h2 (hk₂ c o (by simpa using h1) e)
      obtain ⟨oC, heC, hoC⟩ := ns_obj hn₃
      have hit₃ : h₃.IsListIter s.heap.objs.size pd (i + 1) := st₂.1.at fun o e => hk₃ _ o hIC e
      obtain ⟨oI, heI, hoI⟩ := id hit₃
      have F₃ : Fr h₀ L h₃ m := ⟨F'.ns.at' fun o e => up₃ _ o hIL (Ne.symm hCL) e, fun c o e => up₃ c o (fun q => by rw [q, hI₀] at e; cases e) (fun q => by rw [q, hC₀] at e; cases e) (F'.keep c o e), F'.above⟩
      have N₃ : News h₀ L h₃ ((s.heap.objs.size, oI) :: (C, oC) :: (D, lst ys) :: news) := fun p hp => by
        rcases List.mem_cons.mp hp with rfl | hp
        · exact ⟨heI, Ne.symm hIL, hI₀⟩
        · rcases List.mem_cons.mp hp with rfl | hp
          · exact ⟨heC, hCL, hC₀⟩
          · have z := N' p hp
            refine ⟨up₃ _ _ ?_ ?_ z.1, z.2⟩
            · rcases List.mem_cons.mp hp with rfl | hp
              · exact Ne.symm hID
              · exact (off p hp).1
            · rcases List.mem_cons.mp hp with rfl | hp
              · exact hDC
              · exact (off p hp).2.1
      refine wpAny_mono (turn its[i] s.heap.objs.size oI C oC D _ ys h₃ tk₃ Er hmem hoC ?_ ?_ ?_ F₃ N₃ (Off3.of off) ⟨hIC, hID, Ne.symm hDC⟩ trivial) (fun v s₄ h₄ => ?_) fun _ _ e => e
      · simp [hne.1, hne.2.1]
      · simp [hne.2.2]
      · simp
      · obtain ⟨h₄', tk₄, news₄, rfl, F₄, N₄, _, _, rfl, t, rfl⟩ := h₄
        have zI := (N₄ (s.heap.objs.size, oI) List.mem_cons_self).1
        have zC := (N₄ (C, oC) (List.mem_cons_of_mem _ List.mem_cons_self)).1
        refine ⟨_, F₄, hoC.ns zC, fun p hp => N₄ p (List.mem_cons_of_mem _ (List.mem_cons_of_mem _ hp)), fun h₅ hs₅ => ⟨?_, ?_, h₅, tk₄, rfl⟩⟩
        · rw [List.take_add_one, List.getElem?_eq_getElem hlt', List.map_append]
          exact StrsAre.append' hys (.cons _ _ .nil)
        · obtain ⟨hc, hd⟩ := hoI
          exact ⟨oI, hs₅.extBut _ _ hID zI, hc, hd⟩
    · have hin : i = its.length := Nat.le_antisymm hi (Nat.not_lt.mp hlt')
      refine (Walks.list hh s.heap.objs.size pd (Nat.ne_of_lt hlt) (itRefs its).toArray).done _ _ _ ⟨by rw [hlen, ← hin]; exact hit, hl'⟩ fun h₂ tk₂ hk₂ => ?_
      refine ⟨m', fr_but F' hk₂ hIL hI₀, hn'.at' fun o e => hk₂ _ o (by simpa using Ne.symm hIC) e, fun p hp => ?_, ?_, h₂, tk₂, rfl⟩
      · refine ⟨hk₂ _ _ ?_ (N' p hp).1, (N' p hp).2⟩
        rcases List.mem_cons.mp hp with rfl | hp
        · simpa using Ne.symm hID
        · simpa using (off p hp).1
      · rw [hin, List.take_length] at hys; exact hys
end
end Mine
end
section
open PySem PySem.W PyProof.Rows PySem.Calls PyProof.Rows.LCg
set_option maxRecDepth 100000
namespace Mine
theorem news_two {h₀ h : Heap} {L : Addr} {news : List (Addr × Obj)} {q q2 : Addr × Obj} (N : News h₀ L h news) (h1 : q ∈ news) (h2 : q2 ∈ news) : News h₀ L h (q :: q2 :: news) := fun p hp => by
  rcases List.mem_cons.mp hp with rfl | hp
  · exact N _ h1
  · rcases List.mem_cons.mp hp with rfl | hp
    · exact N _ h2
    · exact N _ hp
theorem news_one {h₀ h : Heap} {L : Addr} {news : List (Addr × Obj)} {q : Addr × Obj} (N : News h₀ L h news) (h1 : q ∈ news) : News h₀ L h (q :: news) := fun p hp => by
  rcases List.mem_cons.mp hp with rfl | hp
  · exact N _ h1
  · exact N _ hp
theorem off1_of {D : Addr} : ∀ {l : List (Addr × Obj)}, (∀ p ∈ l, p.1 ≠ D) → LCg.Off1 D l
  | [], _ => trivial
  | _ :: _, h => ⟨h _ List.mem_cons_self, off1_of fun p hp => h p (List.mem_cons_of_mem _ hp)⟩
section
variable {w : World} {mean : ExcName → Option Value} {mg mb : Str → Option Value} {dp un : Nat} {gd : Option (List Code)} {cn : Str} {cs : Scope} {a : Addr} {ccd : Value} {cl : List (Str × Addr)} {outer : List Env} {A₀ : Around} {base h₀ : Heap} {L : Addr} {m : Str → Option Value} {news : List (Addr × Obj)} {s : Shared} {Q E : Value → Shared → Prop}
theorem told_k {M W : Addr} {us vs : List Value} {c0 c1 : Nat} {ws : List Str} {deal : Int} {td : Tok} (B : Below A₀ base outer h₀) (F : Fr h₀ L s.heap m) (X : (KK w).In h₀) (N : News h₀ L s.heap news) (h1 : (M, listOf us.toArray c1) ∈ news) (h2 : (W, listOf vs.toArray c0) ∈ news) (T : TopM mean mg mb h₀) (hk : cs.kind = .function)
    (hp : StrsAre us ws ∧ StrsAre vs ws ∧ ws.length = 5 ∧ (∀ x ∈ ws, x.length ≤ 8)) (hd : dp + 5 < recursionLimit) (hu : un + 40 < cLine)
    (h : ∀ (D : Addr) (us : List Value) (c : Nat) (h' : Heap) (tk' : Nat), Fr h₀ L h' m → News h₀ L h' ((D, listOf us.toArray c) :: news) → (∀ p ∈ news, p.1 < D) → IntsAre us (tieOut (toldR ws) 5) → Q (.ref D) { s with heap := h', toks := tk' }) :
    wpAny (model prog w) (ktrTop dp un gd cn cs L a ccd cl outer) (call (.ref 69) [.ref M, .ref W, .int deal td]) Q E s :=
  told_c w mean mg mb M W us vs c0 c1 ws deal td dp un gd cn cs a ccd cl outer A₀ base h₀ L m news s Q E B F X (news_two N h1 h2) T hk hp hd hu fun D us' c h' tk' F' N' l i => h D us' c h' tk' F' (fun p hp => N' p (by
    rcases List.mem_cons.mp hp with rfl | hp
    · exact .head _
    · exact .tail _ (.tail _ (.tail _ hp)))) (fun p hp => l p (.tail _ (.tail _ hp))) i
theorem own_k {W : Addr} {vs : List Value} {c0 : Nat} {ws : List Str} (B : Below A₀ base outer h₀) (F : Fr h₀ L s.heap m) (X : (KK w).In h₀) (N : News h₀ L s.heap news) (h2 : (W, listOf vs.toArray c0) ∈ news) (T : TopM mean mg mb h₀) (hk : cs.kind = .function)
    (hp : StrsAre vs ws ∧ ws.length = 5 ∧ (∀ x ∈ ws, x.length ≤ 8)) (hd : dp + 3 < recursionLimit) (hu : un + 24 < cLine)
    (h : ∀ (D : Addr) (us : List Value) (c : Nat) (h' : Heap) (tk' : Nat), Fr h₀ L h' m → News h₀ L h' ((D, listOf us.toArray c) :: news) → (∀ p ∈ news, p.1 < D) → IntsAre us (tieOut (ownR ws) 5) → Q (.ref D) { s with heap := h', toks := tk' }) :
    wpAny (model prog w) (ktrTop dp un gd cn cs L a ccd cl outer) (call (.ref 62) [.ref W]) Q E s :=
  own_c w mean mg mb W vs c0 ws dp un gd cn cs a ccd cl outer A₀ base h₀ L m news s Q E B F X (news_one N h2) T hk hp hd hu fun D us' c h' tk' F' N' l i => h D us' c h' tk' F' (fun p hp => N' p (by
    rcases List.mem_cons.mp hp with rfl | hp
    · exact .head _
    · exact .tail _ (.tail _ hp))) (fun p hp => l p (.tail _ hp)) i
theorem shape_k {W : Addr} {vs : List Value} {c0 : Nat} {ts : List Int} (B : Below A₀ base outer h₀) (F : Fr h₀ L s.heap m) (X : (KK w).In h₀) (N : News h₀ L s.heap news) (h2 : (W, listOf vs.toArray c0) ∈ news) (T : TopM mean mg mb h₀) (hk : cs.kind = .function)
    (hp : IntsAre vs ts ∧ ts.length = 5) (hd : dp + 3 < recursionLimit) (hu : un + 24 < cLine)
    (h : ∀ (D : Addr) (us : List Value) (c : Nat) (h' : Heap) (tk' : Nat), Fr h₀ L h' m → News h₀ L h' ((D, listOf us.toArray c) :: news) → LCg.Off1 D news → IntsAre us (shapeL ts) → Q (.ref D) { s with heap := h', toks := tk' }) :
    wpAny (model prog w) (ktrTop dp un gd cn cs L a ccd cl outer) (call (.ref 74) [.ref W]) Q E s :=
  shape_c w mean mg mb W vs c0 ts dp un gd cn cs a ccd cl outer A₀ base h₀ L m news s Q E B F X (news_one N h2) T hk hp hd hu fun D us' c h' tk' F' N' l i => h D us' c h' tk' F' (fun p hp => N' p (by
    rcases List.mem_cons.mp hp with rfl | hp
    · exact .head _
    · exact .tail _ (.tail _ hp))) l.2 i
end
theorem wd_short {n : Int} {l t : Str} (h1 : l.length ≤ 1) (h2 : t.length ≤ 1) : (wdOf n l t).length ≤ 8 := by
  have := opAt_short n
  unfold wdOf
  rw [sapp_len, sapp_len]; omega
theorem its_short {pw pd adr i ws its} (h : DrP pw pd adr i ws its) : ∀ x ∈ ws, x.length ≤ 8 := by
  rw [h.wd]
  intro x hx
  obtain ⟨i, hi, rfl⟩ := List.mem_map.mp hx
  obtain ⟨_, _, h3, h4⟩ := h.ok i hi
  exact wd_short (lead_len h3) (lead_len h4)
theorem op_okL : ∀ x ∈ opL, PyData.strOk x = true := by decide +kernel
theorem op_ok (n : Int) : PyData.strOk (opAt n) = true := by
  unfold opAt
  by_cases hn : (n - 7).toNat < opL.length
  · rw [List.getD_eq_getElem?_getD, List.getElem?_eq_getElem hn]; exact op_okL _ (List.getElem_mem hn)
  · rw [List.getD_eq_getElem?_getD, List.getElem?_eq_none (by omega)]; exact (by decide +kernel : PyData.strOk Str.empty = true)
theorem app_ok {x y : Str} (hx : PyData.strOk x = true) (hy : PyData.strOk y = true) : PyData.strOk (x ++ y) = true := by
  rw [str_append_eq]
  unfold PyData.strOk at hx hy ⊢
  rw [Array.all_append, hx, hy]; rfl
theorem its_ok {pw pd adr i ws its} (h : DrP pw pd adr i ws its) : ∀ x ∈ ws, PyData.strOk x = true := by
  rw [h.wd]
  intro x hx
  obtain ⟨i, hi, rfl⟩ := List.mem_map.mp hx
  obtain ⟨_, _, h3, h4⟩ := h.ok i hi
  exact app_ok (app_ok (lead_ok h3) (op_ok _)) (lead_ok h4)
theorem its_ws {pw pd adr i ws its} (h : DrP pw pd adr i ws its) : ws.length = i := by rw [h.wd, itWds, List.length_map, h.len]
theorem mem_itLed {its : List DItem} {i : DItem} (h : i ∈ its) : (i.a, i.obj) ∈ itLed its := List.mem_map.mpr ⟨i, h, rfl⟩
section
variable {prog : Program} {w : World} {A : Around} {E : Value → Shared → Prop} {s : Shared} {h₀ : Heap} {L : Addr} {m : Str → Option Value} {env : Env}
theorem made_assign {elt : Expr} {dn y x1 x2 x3 : Str} {pdn py p1 p2 p3 tp : Pos} {kk : Nat} {scope : Scope} {cl : List (Str × Addr)} {pos spos : Pos} {Q : Flow → Shared → Prop} {news : List (Addr × Obj)} {pd : Addr} {its : List DItem} {nd : Nat}
    (F : Fr h₀ L s.heap m) (N : News h₀ L s.heap news) (hLe : env.locals = L) (hh : A.handled = none)
    (hsw : swapsWith (.ListComp elt [⟨.Tuple [.Name x1 p1, .Name x2 p2, .Name x3 p3] kk tp, .Name dn pdn, [], 0⟩] scope pos) (some (.Name y py)) spos.line env = pure true)
    (hclos : closureFor scope env = pure cl) (hcell : ∀ z ∈ scope.names, z.2 ≠ .cell) (hkind : scope.kind = .function)
    (hnames : ∀ z ∈ scope.names, z.2 = .local → scope.names.lookup z.1 = some .local) (hx : scope.names.lookup x1 = some .local) (hy1 : scope.names.lookup x2 = some .local) (hz : scope.names.lookup x3 = some .local) (hne : x1 ≠ x2 ∧ x1 ≠ x3 ∧ x2 ≠ x3)
    (hy : env.kindOf y = some .local) (hp : (env.scope.kind == .class || (env.scope.kind == .module && env.locals != env.globals)) = false)
    (hek : env.scope.kind = .function) (hdn : env.kindOf dn = some .local) (hdv : m dn = some (.ref pd)) (hdd : (dn == ("__debug__" : Str)) = false)
    (hsz : its.length ≤ sizeLine) (hpd : (pd, listOf (itRefs its).toArray nd) ∈ news) (hits : ∀ i ∈ its, (i.a, i.obj) ∈ news)
    (turn : ∀ (i : DItem) I oI C oC D m₂ ys h tk (E' : Value → Shared → Prop), i ∈ its → NsObj oC m₂ → m₂ x1 = some (.int i.n i.tn) → m₂ x2 = some (.str i.l i.tl) → m₂ x3 = some (.str i.t i.tt) → Fr h₀ L h m → News h₀ L h ((I, oI) :: (C, oC) :: (D, lst ys) :: news) → Off3 I C D news → ((@Ne Nat I C) ∧ (@Ne Nat I D) ∧ (@Ne Nat C D)) → KPfMark →
      wpAny (model prog w) A (eval elt (compEnvC scope cl C env)) (CompEnd h₀ L m { s with heap := h, toks := tk } I oI C oC D (lst ys) (fun _ => True) (fun v news' => news' = news ∧ ∃ t, v = .str (wdOf i.n i.l i.t) t)) E' { s with heap := h, toks := tk })
    (fin : ∀ D ys h' tk, StrsAre ys (itWds its) → Fr h₀ L h' (fun z => if z = y then some (.ref D) else m z) → News h₀ L h' ((D, lst ys) :: news) → Off1 D news → Q .next { s with heap := h', toks := tk })
    (hs : ∀ x, foldedSetIterable (.Name dn pdn) env x = pure x := by intro _; rfl) :
    wpAny (model prog w) A (exec (.Assign [.Name y py] (.ListComp elt [⟨.Tuple [.Name x1 p1, .Name x2 p2, .Name x3 p3] kk tp, .Name dn pdn, [], 0⟩] scope pos) spos) env) Q E s := by
  subst hLe
  refine g_assign (m := m) (h₀ := h₀) news (fun ys s₁ => StrsAre ys (itWds its) ∧ ∃ h tk, s₁ = { s with heap := h, toks := tk }) rfl hsw hclos hcell hkind hnames hy hp ?_ ?_ hs
  · refine wpAny_Name (wpAny_loadName_local hek hdn F.ns hdv ?_) hdd
    exact made_src (f := fun i => wdOf i.n i.l i.t) rfl hh hkind hx hy1 hz hne hsz F N hpd hits turn
  · rintro D ys s₁ h' tk ⟨h1, h2, tk2, rfl⟩ F' N' o1
    exact fin D ys h' tk h1 F' N' o1
end
theorem canLay_strs (ws : List Str) (h : ∀ x ∈ ws, PyData.strOk x = true) : PyData.canLayAll0 (ws.map PyData.str) = true := by
  rw [canLayAll_strs', List.all_eq_true]; exact h
theorem depth_strs : ∀ ws : List Str, PyData.depthAll (ws.map PyData.str) = 0
  | [] => rfl
  | _ :: r => by simp [PyData.depthAll, PyData.depth, depth_strs r]
theorem shaped_strs (ws : List Str) (h : ∀ x ∈ ws, PyData.strOk x = true) : SeqAt.shaped (.list (ws.map PyData.str)) = true := by
  simp [SeqAt.shaped, PyData.canLay0, PyData.depth, canLay_strs ws h, depth_strs]
theorem same_strs : ∀ ws : List Str, PySem.Spec.sameAll (ws.map PyData.str) (ws.map PyData.str) = true
  | [] => by simp [PySem.Spec.sameAll]
  | x :: r => by simp [PySem.Spec.sameAll, PySem.Spec.same, same_strs r]
theorem carried_strs : ∀ {vs : List Value} {ws : List Str}, StrsAre vs ws → CarriedAll vs (ws.map PyData.str)
  | _, _, .nil => .nil
  | _, _, .cons _ t r => .cons (.str _ t) (carried_strs r)
theorem ne_strs {prog : Program} {w : World} {A : Around} {E : Value → Shared → Prop} {s : Shared} {a b : Addr} {xs ys : List Value} {ws : List Str} {Q : Value → Shared → Prop} (ha : s.heap.IsList a xs.toArray) (hb : s.heap.IsList b ys.toArray) (hi : StrsAre xs ws) (hj : StrsAre ys ws) (hl : ∀ x ∈ ws, PyData.strOk x = true) (hu : A.units + 64 < cLine) (h : Q (.bool false) s) :
    wpAny (model prog w) A (compareOp .NotEq (.ref a) (.ref b)) Q E s :=
  ne_dataH_same (reads_newData ha (carried_strs hi)) (reads_newData hb (carried_strs hj)) (shaped_strs _ hl) (shaped_strs _ hl) hu (SeqAt.noMix_of_shape (.list .str) rfl _ _ (list_map_has fun _ => rfl) (list_map_has fun _ => rfl)) (by
    have e : PySem.Spec.same (.list (ws.map PyData.str)) (.list (ws.map PyData.str)) = true := by simp only [PySem.Spec.same]; exact same_strs ws
    rw [e]; exact h)
theorem addM1 {x : Str} {n : Int} (hx : x.length ≤ 1) : x.length + (opAt n).length ≤ sizeLine := by
  have := opAt_short n
  rw [sizeLine_eq]; omega
theorem addM2 {x t : Str} {n : Int} (hx : x.length ≤ 1) (ht : t.length ≤ 1) : (x ++ opAt n).length + t.length ≤ sizeLine := by
  have := opAt_short n
  rw [sizeLine_eq, sapp_len]; omega
theorem eq_nil_c {prog : Program} {w : World} {A : Around} {E : Value → Shared → Prop} {s : Shared} {a b : Addr} {xs : List Value} {ns : List Int} {Q : Value → Shared → Prop} (ha : s.heap.IsList a xs.toArray) (hb : s.heap.IsList b ([] : List Value).toArray) (hi : IntsAre xs ns) (hl : ns.length = 5) (hu : A.units + 64 < cLine) (h : Q (.bool false) s) :
    wpAny (model prog w) A (compareOp .Eq (.ref a) (.ref b)) Q E s := by
  refine ke_eq_ints ha hb hi .nil hu ?_
  have e : decide (ns = []) = false := by
    rw [decide_eq_false_iff_not]; rintro rfl; cases hl
  rw [e]; exact h
theorem ne_cells2 {pw x1 x2 x3 x4 x5 x6 x7 x8 x9 D : Addr} {l : List (Addr × Obj)} (h : (@Ne Nat x1 D) ∧ (@Ne Nat x2 D) ∧ (@Ne Nat x3 D) ∧ (@Ne Nat x4 D) ∧ (@Ne Nat pw D) ∧ (@Ne Nat x5 D) ∧ (@Ne Nat x6 D) ∧ (@Ne Nat x7 D) ∧ (@Ne Nat x8 D) ∧ (@Ne Nat x9 D) ∧ LCg.Off1 D l) :
    (@Ne Nat pw D) ∧ (@Ne Nat x6 D) ∧ (@Ne Nat x7 D) ∧ (@Ne Nat x8 D) ∧ (@Ne Nat x9 D) := ⟨h.2.2.2.2.1, h.2.2.2.2.2.2.1, h.2.2.2.2.2.2.2.1, h.2.2.2.2.2.2.2.2.1, h.2.2.2.2.2.2.2.2.2.1⟩
theorem ne_cells3 {a b c d pw pd : Addr} (h : (@Ne Nat a pw) ∧ (@Ne Nat a pd) ∧ (@Ne Nat b pw) ∧ (@Ne Nat b pd) ∧ (@Ne Nat c pw) ∧ (@Ne Nat c pd) ∧ (@Ne Nat d pw) ∧ (@Ne Nat d pd)) : (@Ne Nat a pw) ∧ (@Ne Nat b pw) ∧ (@Ne Nat c pw) ∧ (@Ne Nat d pw) :=
  ⟨h.1, h.2.2.1, h.2.2.2.2.1, h.2.2.2.2.2.2.1⟩
end Mine
end
section
open PySem
set_option maxRecDepth 100000
namespace Mine
section
variable {M : Model} {A : Around} {R : GenEnd} {Y : Protocol} {n : Nat} {s₀ : Shared} {c : Code} {fs : List Frame} {s : Shared} {env : Env}
  {K : Flow → Sem Fin} {H : Value → Sem Fin} {gd : Bool → Bool} {lv : List Value → List Value}
theorem seg_If {test : Expr} {body orelse : List Stmt} {pos : Pos}
    (h : wpAny M (A.over c fs) (isTrue test env (eval test env)) (fun b s' => if b = true then Seg M A R Y n s₀ c ((execs body env).wrap K H gd lv) fs s' else Seg M A R Y n s₀ c ((execs orelse env).wrap K H gd lv) fs s') (fun x s' => Seg M A R Y n s₀ c (H x) fs s') s) :
    Seg M A R Y n s₀ c ((exec (.If test body orelse pos) env).wrap K H gd lv) fs s := by
  rw [arm_exec_If]
  refine seg_at ?_
  show Seg M A R Y n s₀ c ((isTrue test env (eval test env) >>= fun b => if b = true then execs body env else execs orelse env).wrap K H gd lv) fs s
  rw [Sem.bind_eq_wrap', Sem.wrap_wrap]
  refine seg_wrap (wpAny_mono h (fun b s' hb => ?_) fun _ _ x => x)
  cases b with
  | true => exact hb
  | false => exact hb
/-- how a loop's end comes back to the statement -/
noncomputable def backTo (K : Flow → Sem Fin) (H : Value → Sem Fin) (gd : Bool → Bool) (lv : List Value → List Value) (env : Env) (r : Result) : Sem Fin :=
  (((match r with | .ok f => (.pure f : Sem Flow) | .error e => .raise e).onRaise fun (x : Value) => do
        if (← field x 1) == Value.none then unsupported "frame.own-activation:exception-without-traceback"
        setFlight x env.frame).wrap K H gd lv)
theorem seg_For {target iter : Expr} {body : List Stmt} {pos : Pos}
    (h : wpAny M (A.over c fs) (eval iter env) (fun x s₁ => wpAny M (A.over c fs) (pyIter x) (fun it s₂ => ∀ p, Seg M A R Y n s₀ (.forLoop target it body [] env) (M.den (.forLoop target it body [] env)) (.ret (backTo K H gd lv env) none (gd false) (lv []) c p [] :: fs) s₂)
      (fun x s' => Seg M A R Y n s₀ c (H x) fs s') s₁) (fun x s' => Seg M A R Y n s₀ c (H x) fs s') s)
    (hs : ∀ x, foldedSetIterable iter env x = pure x := by intro _; rfl) :
    Seg M A R Y n s₀ c ((exec (.For target iter body [] pos) env).wrap K H gd lv) fs s := by
  rw [exec_For]
  refine seg_at ?_
  simp only [hs]
  show Seg M A R Y n s₀ c ((eval iter env >>= fun x => pure x >>= fun x => standAt iter.pos >>= fun _ => holding [x] (pyIter x) >>= fun it => runOwn (.forLoop target it body [] env) env).wrap K H gd lv) fs s
  rw [Sem.bind_eq_wrap', Sem.wrap_wrap]
  refine seg_wrap (wpAny_mono h (fun x s₁ h₁ => ?_) fun _ _ x => x)
  show Seg M A R Y n s₀ c ((standAt iter.pos >>= fun _ => holding [x] (pyIter x) >>= fun it => runOwn (.forLoop target it body [] env) env).wrap K H gd lv) fs s₁
  refine seg_at ?_
  show Seg M A R Y n s₀ c ((holding [x] (pyIter x) >>= fun it => runOwn (.forLoop target it body [] env) env).wrap K H gd lv) fs s₁
  rw [Sem.bind_eq_wrap', Sem.wrap_wrap]
  refine seg_wrap (wpAny_holding (wpAny_mono h₁ (fun it s₂ h₂ => ?_) fun _ _ x => x))
  exact seg_call h₂
end
section
variable {prog : Program} {w : World} {A : Around} {R : GenEnd} {Y : Protocol} {n : Nat} {s₀ : Shared} {fs : List Frame} {s : Shared} {env : Env}
/-- what is done with a turn's flow -/
noncomputable def afterTurn (target : Expr) (it : Value) (body : List Stmt) (env : Env) (f : Flow) : Sem Fin :=
  match f with
  | .next | .cont => .pure (.again (.forLoop target it body [] env))
  | .brk => .pure (.done .next)
  | .ret v => .pure (.done (.ret v))
noncomputable def noted (env : Env) (e : Value) : Sem Fin := (do noteFrame e env; theTreesLotGoes e : Sem Unit).wrap (fun _ => .raise e) .raise id id
theorem seg_forLoop {target : Expr} {it : Value} {body : List Stmt}
    (h : wpAny (model prog w) (A.over (.forLoop target it body [] env) fs) (pyNext it) (fun r s₁ => match r with
        | none => Seg (model prog w) A R Y n s₀ (.forLoop target it body [] env) (.pure (.again (.block [] env))) fs s₁
        | some v => wpAny (model prog w) (A.over (.forLoop target it body [] env) fs) (letOwnedTupleGo target it v) (fun _ s₂ => wpAny (model prog w) (A.over (.forLoop target it body [] env) fs) (assign target env v) (fun _ s₃ =>
            Seg (model prog w) A R Y n s₀ (.forLoop target it body [] env) ((execs body env).wrap (afterTurn target it body env) (noted env) id id) fs s₃) (fun _ _ => False) s₂) (fun _ _ => False) s₁)
      (fun _ _ => False) s) :
    Seg (model prog w) A R Y n s₀ (.forLoop target it body [] env) ((model prog w).den (.forLoop target it body [] env)) fs s := by
  show Seg _ A R Y n s₀ _ ((forTurn target it body [] env).onRaise (fun x => do noteFrame x env; theTreesLotGoes x)) fs s
  unfold forTurn
  rw [Sem.onRaise_eq_wrap]
  refine seg_at ?_
  show Seg _ A R Y n s₀ _ (Sem.wrap _ _ _ _ ((pyNext it).onRaise (fun _ => standAt { target.pos with line := 0 }) >>= _)) fs s
  rw [Sem.bind_eq_wrap', Sem.wrap_wrap]
  refine seg_wrap (wpAny_onRaise (wpAny_mono h (fun r s₁ h₁ => ?_) fun _ _ x => x.elim))
  cases r with
  | none => exact h₁
  | some v =>
    show Seg _ A R Y n s₀ _ (Sem.wrap _ _ _ _ (letOwnedTupleGo target it v >>= _)) fs s₁
    rw [Sem.bind_eq_wrap', Sem.wrap_wrap]
    refine seg_wrap (wpAny_mono h₁ (fun _ s₂ h₂ => ?_) fun _ _ x => x.elim)
    show Seg _ A R Y n s₀ _ (Sem.wrap _ _ _ _ (assign target env v >>= _)) fs s₂
    rw [Sem.bind_eq_wrap', Sem.wrap_wrap]
    refine seg_wrap (wpAny_mono h₂ (fun _ s₃ h₃ => ?_) fun _ _ x => x.elim)
    show Seg _ A R Y n s₀ _ (Sem.wrap _ _ _ _ (execs body env >>= _)) fs s₃
    rw [Sem.bind_eq_wrap', Sem.wrap_wrap]
    rw [Sem.wrap_congr (execs body env) _ _ (K' := afterTurn target it body env) (H' := noted env) (fun f => by cases f <;> rfl)
        (fun e => by first | exact Sem.bind_eq_wrap _ _ | (show (do noteFrame e env; theTreesLotGoes e : Sem Unit).bind (fun _ => .raise e) = _; rw [Sem.bind_eq_wrap]; rfl))]
    exact h₃
end
end Mine
end
section
open PySem PySem.W PyProof.Rows PySem.Calls
set_option maxRecDepth 100000
namespace Mine
noncomputable def gStep (U : List Nat) (k c : Nat) : Nat := if k < U.length ∧ U.getD k 0 = c then k + 1 else k
theorem g_stay (U : List Nat) : ∀ (V : List Nat), V.foldl (gStep U) U.length = U.length
  | [] => rfl
  | c :: V => by
    rw [List.foldl_cons, gStep, if_neg (fun h => Nat.lt_irrefl _ h.1)]
    exact g_stay U V
theorem g_le (U : List Nat) : ∀ (V : List Nat) (k : Nat), k ≤ U.length → V.foldl (gStep U) k ≤ U.length
  | [], k, h => h
  | c :: V, k, h => by
    rw [List.foldl_cons]
    refine g_le U V _ ?_
    unfold gStep
    split
    · rename_i h'; exact h'.1
    · exact h
theorem g_iff (U : List Nat) : ∀ (V : List Nat) (k : Nat), k ≤ U.length → (V.foldl (gStep U) k = U.length ↔ (U.drop k).Sublist V)
  | [], k, h => by
    simp only [List.foldl_nil, List.sublist_nil, List.drop_eq_nil_iff]
    omega
  | c :: V, k, h => by
    rw [List.foldl_cons]
    by_cases hk : k < U.length
    · have hd : U.drop k = U.getD k 0 :: U.drop (k + 1) := by
        rw [List.drop_eq_getElem_cons hk, List.getD_eq_getElem?_getD, List.getElem?_eq_getElem hk]; rfl
      by_cases hc : U.getD k 0 = c
      · rw [gStep, if_pos ⟨hk, hc⟩, g_iff U V (k + 1) hk, hd, hc, List.cons_sublist_cons]
      · rw [gStep, if_neg (fun h => hc h.2), g_iff U V k h]
        constructor
        · exact fun h => h.cons _
        · intro hs
          rw [hd] at hs ⊢
          cases hs with
          | cons _ h => exact h
          | cons_cons _ h => exact absurd rfl hc
    · have e : k = U.length := by omega
      subst e
      rw [gStep, if_neg (fun h => hk h.1), g_stay]
      simp
theorem scan_g (u : Str) : ∀ (V : List Nat) (k : Nat), (V.map fun (c : Nat) => (c : Int)).foldl (scanStep u) (k : Int) = ((V.foldl (gStep (cl u)) k : Nat) : Int)
  | [], k => rfl
  | c :: V, k => by
    rw [List.map_cons, List.foldl_cons, List.foldl_cons, ← scan_g u V]
    congr 1
    unfold scanStep gStep
    have h1 : (cl u).length = u.cps.size := by simp [cl]
    have h2 : u.cps.getD k 0 = (cl u).getD k 0 := by simp [cl, Array.getD_eq_getD_getElem?, List.getD_eq_getElem?_getD]
    simp only [Int.toNat_natCast, h2, h1, Int.ofNat_lt, Int.ofNat_inj]
    split <;> simp
theorem scatB_iff (u v : Str) : scatB u v = true ↔ (cl u).Sublist (cl v) := by
  unfold scatB scanK KStt.codes
  have h := scan_g u (cl v) 0
  have h2 := g_iff (cl u) (cl v) 0 (Nat.zero_le _)
  rw [List.drop_zero, cl_len] at h2
  rw [← h2, beq_iff_eq]
  show List.foldl (scanStep u) 0 ((cl v).map fun (c : Nat) => (c : Int)) = _ ↔ _
  have h' : List.foldl (scanStep u) (0 : Int) ((cl v).map fun (c : Nat) => (c : Int)) = ((List.foldl (gStep (cl u)) 0 (cl v) : Nat) : Int) := h
  rw [h']
  omega
theorem told_own (ws : List Str) (i j : Nat) : toldR ws i j = ownR ws i j := by
  unfold toldR ownR
  generalize wAt ws i = x
  generalize wAt ws j = y
  rw [Bool.eq_iff_iff, Bool.or_eq_true, scatB_iff, scatB_iff, decide_eq_true_iff]
  have hx := cl_len x
  have hy := cl_len y
  unfold gapOf DD
  constructor
  · intro h
    by_cases hl : x.length ≤ y.length
    · left
      refine sublist_of_d (c := cc) (fun _ _ => cc_zero) _ _ (by omega) ?_
      rw [hx, hy]
      split at h <;> omega
    · right
      refine sublist_of_d (c := cc) (fun _ _ => cc_zero) _ _ (by omega) ?_
      rw [d_symm cc_symm, hx, hy]
      split at h <;> omega
  · rintro (h | h)
    · have hl := h.length_le
      have := d_of_sublist cc_self h
      rw [hx, hy] at hl this
      rw [this]
      split <;> omega
    · have hl := h.length_le
      have := d_of_sublist cc_self h
      rw [hx, hy] at hl this
      rw [d_symm cc_symm, this]
      split <;> omega
theorem told_own_fun (ws : List Str) : toldR ws = ownR ws := by funext i j; exact told_own ws i j
/-- which words hang together -/
theorem own_iff (ws : List Str) (i j : Nat) : ownR ws i j = true ↔ (cl (wAt ws i)).Sublist (cl (wAt ws j)) ∨ (cl (wAt ws j)).Sublist (cl (wAt ws i)) := by
  unfold ownR; rw [Bool.or_eq_true, scatB_iff, scatB_iff]
theorem own_symm (ws : List Str) (i j : Nat) : ownR ws i j = ownR ws j i := by
  unfold ownR; rw [Bool.or_comm]
/-- no five words in a ring: each hangs together with the next, and with no other -/
theorem no_ring (ws : List Str) (a b c d e : Nat) (h1 : ownR ws a b = true) (h2 : ownR ws b c = true) (h3 : ownR ws c d = true) (h4 : ownR ws d e = true) (h5 : ownR ws e a = true)
    (g1 : ownR ws a c = false) (g2 : ownR ws b d = false) (g3 : ownR ws c e = false) (g4 : ownR ws d a = false) (g5 : ownR ws e b = false) : False := by
  have no : ∀ {i j : Nat}, ownR ws i j = false → ¬ ((cl (wAt ws i)).Sublist (cl (wAt ws j)) ∨ (cl (wAt ws j)).Sublist (cl (wAt ws i))) := fun h h' => by
    rw [← own_iff] at h'; rw [h] at h'; cases h'
  have n1 := no g1
  have n2 := no g2
  have n3 := no g3
  have n4 := no g4
  have n5 := no g5
  rw [own_iff] at h1 h2 h3 h4 h5
  generalize cl (wAt ws a) = A at *
  generalize cl (wAt ws b) = B at *
  generalize cl (wAt ws c) = C at *
  generalize cl (wAt ws d) = D at *
  generalize cl (wAt ws e) = F at *
  rcases h1 with h1 | h1
  · rcases h2 with h2 | h2
    · exact n1 (.inl (h1.trans h2))
    · rcases h3 with h3 | h3
      · rcases h4 with h4 | h4
        · exact n3 (.inl (h3.trans h4))
        · rcases h5 with h5 | h5
          · exact n5 (.inl (h5.trans h1))
          · exact n4 (.inr (h5.trans h4))
      · exact n2 (.inr (h3.trans h2))
  · rcases h2 with h2 | h2
    · rcases h3 with h3 | h3
      · exact n2 (.inl (h2.trans h3))
      · rcases h4 with h4 | h4
        · rcases h5 with h5 | h5
          · exact n4 (.inl (h4.trans h5))
          · exact n5 (.inr (h1.trans h5))
        · exact n3 (.inr (h4.trans h3))
    · exact n1 (.inr (h2.trans h1))
end Mine
end
section
open PySem PySem.W PyProof.Rows PySem.Calls
set_option maxRecDepth 100000
namespace Mine
/-- for the masks 1 .. 31: (mask, the rest below the top, the top, how many, the masks with one less) -/
noncomputable def tab : List (Nat × Nat × Nat × Nat × List Nat) := [(1, 0, 0, 1, [0]), (2, 0, 1, 1, [0]), (3, 1, 1, 2, [2, 1]), (4, 0, 2, 1, [0]), (5, 1, 2, 2, [4, 1]), (6, 2, 2, 2, [4, 2]), (7, 3, 2, 3, [6, 5, 3]), (8, 0, 3, 1, [0]), (9, 1, 3, 2, [8, 1]), (10, 2, 3, 2, [8, 2]), (11, 3, 3, 3, [10, 9, 3]), (12, 4, 3, 2, [8, 4]), (13, 5, 3, 3, [12, 9, 5]), (14, 6, 3, 3, [12, 10, 6]), (15, 7, 3, 4, [14, 13, 11, 7]), (16, 0, 4, 1, [0]), (17, 1, 4, 2, [16, 1]), (18, 2, 4, 2, [16, 2]), (19, 3, 4, 3, [18, 17, 3]), (20, 4, 4, 2, [16, 4]), (21, 5, 4, 3, [20, 17, 5]), (22, 6, 4, 3, [20, 18, 6]), (23, 7, 4, 4, [22, 21, 19, 7]), (24, 8, 4, 2, [16, 8]), (25, 9, 4, 3, [24, 17, 9]), (26, 10, 4, 3, [24, 18, 10]), (27, 11, 4, 4, [26, 25, 19, 11]), (28, 12, 4, 3, [24, 20, 12]), (29, 13, 4, 4, [28, 25, 21, 13]), (30, 14, 4, 4, [28, 26, 22, 14]), (31, 15, 4, 5, [30, 29, 27, 23, 15])]

/-- the number first, then the rest: so the kernel reckons it once -/
@[reducible] def fz {α : Type} (n : Nat) (f : Nat → α) : α := Nat.casesOn (motive := fun _ => α) n (f 0) (fun k => f (Nat.succ k))
theorem fz_eq {α : Type} (n : Nat) (f : Nat → α) : fz n f = f n := by cases n <;> rfl
noncomputable def dg (b W q : Nat) : Nat := (W / b ^ q) % b
@[reducible] noncomputable def maxD (W : Nat) (l : List Nat) : Nat → Nat :=
  List.rec (motive := fun _ => Nat → Nat) (fun a => a) (fun q _ ih a => fz (dg 8 W q) fun d => cond (Nat.ble a d) (ih d) (ih a)) l
@[reducible] noncomputable def fRun (adj : Nat) (l : List (Nat × Nat × Nat × Nat × List Nat)) : Nat → Nat → Nat → Nat :=
  List.rec (motive := fun _ => Nat → Nat → Nat → Nat) (fun _ _ B => B) (fun e _ ih F W B =>
    cond (Nat.beq (dg 2 F e.2.1) 1 && Nat.beq (Nat.land (dg 32 adj e.2.2.1) e.2.1) 0)
      (fz (F + 2 ^ e.1) fun F' => fz (W + e.2.2.2.1 * 8 ^ e.1) fun W' => fz (dg 8 B e.2.2.2.1) fun o => cond (Nat.ble e.2.2.2.1 o) (ih F' W' B) (fz (B + (e.2.2.2.1 - o) * 8 ^ e.2.2.2.1) fun B' => ih F' W' B'))
      (fz (maxD W e.2.2.2.2 0) fun v => fz (W + v * 8 ^ e.1) fun W' => fz (dg 8 B v) fun o => cond (Nat.ble e.2.2.2.1 o) (ih F W' B) (fz (B + (e.2.2.2.1 - o) * 8 ^ v) fun B' => ih F W' B'))) l
-- figures to a base
theorem dg_low {b W v m q : Nat} (hb : 0 < b) (hq : q < m) : dg b (W + v * b ^ m) q = dg b W q := by
  unfold dg
  have e : v * b ^ m = (v * b ^ (m - q)) * b ^ q := by rw [Nat.mul_assoc, ← Nat.pow_add, Nat.sub_add_cancel (Nat.le_of_lt hq)]
  rw [e, Nat.add_mul_div_right _ _ (Nat.pow_pos hb)]
  have e2 : v * b ^ (m - q) = (v * b ^ (m - q - 1)) * b := by rw [Nat.mul_assoc, ← Nat.pow_succ]; congr 2; omega
  rw [e2, Nat.add_mul_mod_self_right]
theorem dg_at {b W v m : Nat} (hb : 0 < b) (h : dg b W m + v < b) : dg b (W + v * b ^ m) m = dg b W m + v := by
  unfold dg at h ⊢
  rw [Nat.add_mul_div_right _ _ (Nat.pow_pos hb), Nat.add_mod, Nat.mod_eq_of_lt (show v < b by omega), Nat.mod_eq_of_lt h]
theorem dg_high {b W v m q : Nat} (hb : 0 < b) (h : dg b W m + v < b) (hq : m < q) : dg b (W + v * b ^ m) q = dg b W q := by
  unfold dg at h ⊢
  have e : ∀ X : Nat, X / b ^ q = X / b ^ m / b / b ^ (q - m - 1) := fun X => by
    rw [Nat.div_div_eq_div_mul, Nat.div_div_eq_div_mul]
    congr 1
    rw [← Nat.pow_succ', ← Nat.pow_add]
    congr 1; omega
  rw [e (W + v * b ^ m), e W, Nat.add_mul_div_right _ _ (Nat.pow_pos hb)]
  have e2 : (W / b ^ m + v) / b = W / b ^ m / b := by
    have h1 := Nat.div_add_mod (W / b ^ m) b
    rw [show W / b ^ m + v = (W / b ^ m % b + v) + b * (W / b ^ m / b) by omega, Nat.add_mul_div_left _ _ hb, Nat.div_eq_of_lt h, Nat.zero_add]
  rw [e2]
theorem dg_zero {b W m : Nat} (h : W < b ^ m) : dg b W m = 0 := by unfold dg; rw [Nat.div_eq_of_lt h, Nat.zero_mod]
theorem grow_lt {b W v m : Nat} (h : W < b ^ m) (hv : v < b) : W + v * b ^ m < b ^ (m + 1) := by
  have : (v + 1) * b ^ m ≤ b * b ^ m := Nat.mul_le_mul_right _ hv
  rw [Nat.pow_succ, Nat.mul_comm (b ^ m) b]
  rw [Nat.add_mul, Nat.one_mul] at this
  omega
theorem maxD_eq (W : Nat) : ∀ (l : List Nat) (a : Nat), maxD W l a = (l.map (dg 8 W)).foldl max a
  | [], a => rfl
  | q :: r, a => by
    show fz (dg 8 W q) (fun d => cond (Nat.ble a d) (maxD W r d) (maxD W r a)) = _
    rw [fz_eq, maxD_eq W r, maxD_eq W r, List.map_cons, List.foldl_cons]
    by_cases h : a ≤ dg 8 W q
    · rw [Nat.ble_eq.mpr h, cond_true, Nat.max_eq_right h]
    · have : Nat.ble a (dg 8 W q) = false := by rw [Bool.eq_false_iff]; intro h'; exact h (Nat.ble_eq.mp h')
      rw [this, cond_false, Nat.max_eq_left (by omega)]
theorem foldl_max_cast : ∀ (l : List Nat) (a : Nat), (l.map (fun (x : Nat) => (x : Int))).foldl max (a : Int) = ((l.foldl max a : Nat) : Int)
  | [], a => rfl
  | x :: l, a => by
    rw [List.map_cons, List.foldl_cons, List.foldl_cons, ← foldl_max_cast l]
    congr 1
    omega
theorem foldl_max_swap : ∀ (l : List Nat) (a : Nat), l.foldl max a = max a (l.foldl max 0)
  | [], a => by simp
  | x :: l, a => by
    rw [List.foldl_cons, List.foldl_cons, foldl_max_swap l (max a x), foldl_max_swap l (max 0 x), Nat.zero_max, Nat.max_assoc]
theorem maxL_cast (l : List Nat) : maxL (l.map (fun (x : Nat) => (x : Int))) = ((l.foldl max 0 : Nat) : Int) := by
  unfold maxL
  cases l with
  | nil => rfl
  | cons x l =>
    rw [List.map_cons, List.headD_cons, ← List.map_cons, foldl_max_cast, List.foldl_cons, List.foldl_cons, Nat.max_self, Nat.zero_max]
/-- the numbers that stand for the lists -/
structure FRel (n : Nat) (fs : List Bool) (ws bs : List Int) (F W B : Nat) : Prop where
  lf : fs.length = n + 1
  lw : ws.length = n + 1
  lb : bs.length = 6
  f : ∀ k, k ≤ n → dg 2 F k = if fs.getD k false = true then 1 else 0
  w : ∀ k, k ≤ n → ws.getD k 0 = (dg 8 W k : Int)
  b : ∀ k, k < 6 → bs.getD k 0 = (dg 8 B k : Int)
  Fb : F < 2 ^ (n + 1)
  Wb : W < 8 ^ (n + 1)
  w5 : ∀ k, k ≤ n → dg 8 W k ≤ 5
  b5 : ∀ k, k < 6 → dg 8 B k ≤ 5
structure EntOK (n : Nat) (e : Nat × Nat × Nat × Nat × List Nat) : Prop where
  m : e.1 = n + 1
  r : (1 + (n : Int)) - 2 ^ (memT (1 + (n : Int))).toNat = (e.2.1 : Int)
  rn : e.2.1 ≤ n
  t : memT (1 + (n : Int)) = (e.2.2.1 : Int)
  t5 : e.2.2.1 < 5
  len : (memL (1 + (n : Int))).length = e.2.2.2.1
  l1 : 1 ≤ e.2.2.2.1
  l5 : e.2.2.2.1 ≤ 5
  subs : (memL (1 + (n : Int))).map (fun i => ((1 + (n : Int)) - 2 ^ i.toNat).toNat) = e.2.2.2.2
  sn : ∀ q ∈ e.2.2.2.2, q ≤ n
theorem ent_all : ∀ n : Nat, n < 31 → (tab.getD n (0, 0, 0, 0, [])).1 = n + 1 ∧ (1 + (n : Int)) - 2 ^ (memT (1 + (n : Int))).toNat = ((tab.getD n (0, 0, 0, 0, [])).2.1 : Int) ∧ (tab.getD n (0, 0, 0, 0, [])).2.1 ≤ n ∧
    memT (1 + (n : Int)) = ((tab.getD n (0, 0, 0, 0, [])).2.2.1 : Int) ∧ (tab.getD n (0, 0, 0, 0, [])).2.2.1 < 5 ∧ (memL (1 + (n : Int))).length = (tab.getD n (0, 0, 0, 0, [])).2.2.2.1 ∧ 1 ≤ (tab.getD n (0, 0, 0, 0, [])).2.2.2.1 ∧ (tab.getD n (0, 0, 0, 0, [])).2.2.2.1 ≤ 5 ∧
    (memL (1 + (n : Int))).map (fun i => ((1 + (n : Int)) - 2 ^ i.toNat).toNat) = (tab.getD n (0, 0, 0, 0, [])).2.2.2.2 ∧ ∀ q ∈ (tab.getD n (0, 0, 0, 0, [])).2.2.2.2, q ≤ n := by decide +kernel
theorem ent_ok {n : Nat} (h : n < 31) : EntOK n (tab.getD n (0, 0, 0, 0, [])) := by
  obtain ⟨a, b, c, d, e, f, g, i, j, k⟩ := ent_all n h
  exact ⟨a, b, c, d, e, f, g, i, j, k⟩
theorem bitAnd_nat (a r : Nat) : (Builtin.bitAnd (a : Int) (r : Int) == 0) = Nat.beq (Nat.land a r) 0 := by
  have e : Builtin.bitAnd (a : Int) (r : Int) = ((a &&& r : Nat) : Int) := by
    unfold Builtin.bitAnd
    simp
  rw [e]
  show (((Nat.land a r : Nat) : Int) == 0) = _
  cases Nat.land a r with
  | zero => rfl
  | succ k => rfl
theorem getD_snoc_lt {α : Type} {l : List α} {x d : α} {k : Nat} (h : k < l.length) : (l ++ [x]).getD k d = l.getD k d := by
  rw [List.getD_eq_getElem?_getD, List.getD_eq_getElem?_getD, List.getElem?_append_left h]
theorem getD_snoc_eq {α : Type} {l : List α} {x d : α} : (l ++ [x]).getD l.length d = x := by
  rw [List.getD_eq_getElem?_getD, List.getElem?_append_right (Nat.le_refl _)]; simp
/-- the new best figure -/
noncomputable def newB (B v len : Nat) : Nat := if len ≤ dg 8 B v then B else B + (len - dg 8 B v) * 8 ^ v
theorem frel_next {n : Nat} {fs : List Bool} {ws bs : List Int} {F W B len v : Nat} {b : Bool} (h : FRel n fs ws bs F W B) (hv : v ≤ 5) (hl5 : len ≤ 5) {m : Int} (hlen : ((memL m).length : Int) = len) :
    FRel (n + 1) (fs ++ [b]) (ws ++ [(v : Int)]) (stepM bs (v : Int) m) (if b = true then F + 2 ^ (n + 1) else F) (W + v * 8 ^ (n + 1)) (newB B v len) := by
  have hbv := h.b v (by omega)
  have hb5 := h.b5 v (by omega)
  have hF : (if b = true then F + 2 ^ (n + 1) else F) = F + (if b = true then 1 else 0) * 2 ^ (n + 1) := by split <;> simp
  refine ⟨by rw [List.length_append, h.lf]; rfl, by rw [List.length_append, h.lw]; rfl, by rw [stepM, List.length_set, h.lb], ?_, ?_, ?_, ?_, ?_, ?_, ?_⟩
  · intro k hk
    rw [hF]
    rcases Nat.lt_or_ge k (n + 1) with hk' | hk'
    · rw [dg_low (by decide) hk', getD_snoc_lt (by rw [h.lf]; exact hk'), h.f k (by omega)]
    · have : k = n + 1 := by omega
      subst this
      have hz := dg_zero h.Fb
      rw [dg_at (by decide) (by rw [hz]; split <;> decide), hz, Nat.zero_add]
      have := h.lf
      rw [← this, getD_snoc_eq]
  · intro k hk
    rcases Nat.lt_or_ge k (n + 1) with hk' | hk'
    · rw [dg_low (by decide) hk', getD_snoc_lt (by rw [h.lw]; exact hk'), h.w k (by omega)]
    · have : k = n + 1 := by omega
      subst this
      have hz := dg_zero h.Wb
      rw [dg_at (by decide) (by rw [hz]; omega), hz, Nat.zero_add]
      have := h.lw
      rw [← this, getD_snoc_eq]
  · intro k hk
    have hset : (stepM bs (v : Int) m).getD k 0 = if v = k then (if len ≤ dg 8 B v then ((dg 8 B v : Nat) : Int) else (len : Int)) else bs.getD k 0 := by
      unfold stepM
      rw [Int.toNat_natCast, hlen, hbv, List.getD_eq_getElem?_getD, List.getElem?_set]
      by_cases hvk : v = k
      · rw [if_pos hvk, if_pos hvk, if_pos (by rw [h.lb]; omega)]
        simp only [Option.getD_some]
        split <;> split <;> omega
      · rw [if_neg hvk, if_neg hvk, ← List.getD_eq_getElem?_getD]
    rw [hset]
    unfold newB
    by_cases hvk : v = k
    · subst hvk
      rw [if_pos rfl]
      split
      · rfl
      · rw [dg_at (by decide) (by omega)]; congr 1; omega
    · rw [if_neg hvk, h.b k hk]
      congr 1
      split
      · rfl
      · rcases Nat.lt_or_gt_of_ne hvk with hlt | hgt
        · rw [dg_high (by decide) (by omega) hlt]
        · rw [dg_low (by decide) hgt]
  · rw [hF]; exact grow_lt h.Fb (by split <;> decide)
  · exact grow_lt h.Wb (by omega)
  · intro k hk
    rcases Nat.lt_or_ge k (n + 1) with hk' | hk'
    · rw [dg_low (by decide) hk']; exact h.w5 k (by omega)
    · have : k = n + 1 := by omega
      subst this
      have hz := dg_zero h.Wb
      rw [dg_at (by decide) (by rw [hz]; omega), hz]; omega
  · intro k hk
    unfold newB
    split
    · exact h.b5 k hk
    · by_cases hvk : v = k
      · subst hvk; rw [dg_at (by decide) (by omega)]; omega
      · rcases Nat.lt_or_gt_of_ne hvk with hlt | hgt
        · rw [dg_high (by decide) (by omega) hlt]; exact h.b5 k hk
        · rw [dg_low (by decide) hgt]; exact h.b5 k hk
theorem fmax_le {c : Nat} : ∀ (l : List Nat) (a : Nat), a ≤ c → (∀ x ∈ l, x ≤ c) → l.foldl max a ≤ c
  | [], a, h, _ => h
  | x :: l, a, h, h' => by
    rw [List.foldl_cons]
    exact fmax_le l _ (Nat.max_le.mpr ⟨h, h' x (.head _)⟩) fun y hy => h' y (.tail _ hy)
theorem tail_eq (adj : Nat) (l : List (Nat × Nat × Nat × Nat × List Nat)) (F W B len v : Nat) :
    (fz (dg 8 B v) fun o => cond (Nat.ble len o) (fRun adj l F W B) (fz (B + (len - o) * 8 ^ v) fun B' => fRun adj l F W B')) = fRun adj l F W (newB B v len) := by
  rw [fz_eq]
  unfold newB
  by_cases h : len ≤ dg 8 B v
  · rw [Nat.ble_eq.mpr h, cond_true, if_pos h]
  · have : Nat.ble len (dg 8 B v) = false := by rw [Bool.eq_false_iff]; intro h'; exact h (Nat.ble_eq.mp h')
    rw [this, cond_false, if_neg h, fz_eq]
theorem frun_step {ts : List Int} {adj n : Nat} {fs : List Bool} {ws bs : List Int} {F W B : Nat} {e : Nat × Nat × Nat × Nat × List Nat} {l : List (Nat × Nat × Nat × Nat × List Nat)}
    (hadj : ∀ t, t < 5 → ts.getD t 0 = (dg 32 adj t : Int)) (h : FRel n fs ws bs F W B) (he : EntOK n e) :
    ∃ F' W' B', fRun adj (e :: l) F W B = fRun adj l F' W' B' ∧
      FRel (n + 1) (fs ++ [stepB ts fs (1 + (n : Int))]) (ws ++ [stepV (stepB ts fs (1 + (n : Int))) ws (1 + (n : Int))]) (stepM bs (stepV (stepB ts fs (1 + (n : Int))) ws (1 + (n : Int))) (1 + (n : Int))) F' W' B' := by
  have hb : stepB ts fs (1 + (n : Int)) = (Nat.beq (dg 2 F e.2.1) 1 && Nat.beq (Nat.land (dg 32 adj e.2.2.1) e.2.1) 0) := by
    unfold stepB
    rw [he.r, he.t, Int.toNat_natCast, Int.toNat_natCast, hadj _ he.t5, bitAnd_nat]
    congr 1
    have := h.f _ he.rn
    cases hf : fs.getD e.2.1 false with
    | true => rw [hf] at this; rw [this]; rfl
    | false => rw [hf] at this; rw [this]; rfl
  have hlen : ((memL (1 + (n : Int))).length : Int) = e.2.2.2.1 := by rw [he.len]
  cases hbb : (Nat.beq (dg 2 F e.2.1) 1 && Nat.beq (Nat.land (dg 32 adj e.2.2.1) e.2.1) 0) with
  | true =>
    rw [hb, hbb]
    have hv : stepV true ws (1 + (n : Int)) = ((e.2.2.2.1 : Nat) : Int) := by unfold stepV; rw [if_pos rfl, hlen]
    rw [hv]
    refine ⟨_, _, _, ?_, frel_next h he.l5 he.l5 hlen⟩
    show cond (Nat.beq (dg 2 F e.2.1) 1 && Nat.beq (Nat.land (dg 32 adj e.2.2.1) e.2.1) 0) (fz (F + 2 ^ e.1) fun F' => fz (W + e.2.2.2.1 * 8 ^ e.1) fun W' => fz (dg 8 B e.2.2.2.1) fun o => cond (Nat.ble e.2.2.2.1 o) (fRun adj l F' W' B) (fz (B + (e.2.2.2.1 - o) * 8 ^ e.2.2.2.1) fun B' => fRun adj l F' W' B')) _ = _
    rw [hbb, cond_true, fz_eq, fz_eq, tail_eq, if_pos rfl, he.m]
  | false =>
    rw [hb, hbb]
    have hv : stepV false ws (1 + (n : Int)) = ((maxD W e.2.2.2.2 0 : Nat) : Int) := by
      unfold stepV
      rw [if_neg (by decide), maxD_eq, ← maxL_cast, ← he.subs, List.map_map, List.map_map]
      congr 1
      refine List.map_congr_left fun i hi => ?_
      have hq : ((1 + (n : Int)) - 2 ^ i.toNat).toNat ≤ n := he.sn _ (by rw [← he.subs]; exact List.mem_map_of_mem hi)
      exact h.w _ hq
    have hv5 : maxD W e.2.2.2.2 0 ≤ 5 := by
      rw [maxD_eq]
      refine fmax_le _ _ (by decide) fun x hx => ?_
      obtain ⟨q, hq, rfl⟩ := List.mem_map.mp hx
      exact h.w5 q (he.sn q hq)
    rw [hv]
    refine ⟨_, _, _, ?_, frel_next h hv5 he.l5 hlen⟩
    show cond (Nat.beq (dg 2 F e.2.1) 1 && Nat.beq (Nat.land (dg 32 adj e.2.2.1) e.2.1) 0) _ (fz (maxD W e.2.2.2.2 0) fun v => fz (W + v * 8 ^ e.1) fun W' => fz (dg 8 B v) fun o => cond (Nat.ble e.2.2.2.1 o) (fRun adj l F W' B) (fz (B + (e.2.2.2.1 - o) * 8 ^ v) fun B' => fRun adj l F W' B')) = _
    rw [hbb, cond_false, fz_eq, fz_eq, tail_eq, if_neg (by decide), he.m]
theorem drop_tab {n : Nat} (h : n < 31) : tab.drop n = tab.getD n (0, 0, 0, 0, []) :: tab.drop (n + 1) := by
  have : n < tab.length := h
  rw [List.drop_eq_getElem_cons this, List.getD_eq_getElem?_getD, List.getElem?_eq_getElem this]; rfl
theorem frun_all {ts : List Int} {adj : Nat} (hadj : ∀ t, t < 5 → ts.getD t 0 = (dg 32 adj t : Int)) :
    ∀ n, n ≤ 31 → ∃ F W B, fRun adj tab 1 0 0 = fRun adj (tab.drop n) F W B ∧ FRel n (shSt ts n).1 (shSt ts n).2.1 (shSt ts n).2.2 F W B
  | 0, _ => ⟨1, 0, 0, rfl, ⟨rfl, rfl, rfl, by show ∀ k, k ≤ 0 → dg 2 1 k = if ([true] : List Bool).getD k false = true then 1 else 0; decide, by show ∀ k, k ≤ 0 → ([0] : List Int).getD k 0 = ((dg 8 0 k : Nat) : Int); decide,
    by show ∀ k, k < 6 → ([0, 0, 0, 0, 0, 0] : List Int).getD k 0 = ((dg 8 0 k : Nat) : Int); decide, by decide, by decide, by decide, by decide⟩⟩
  | n + 1, hn => by
    obtain ⟨F, W, B, e, r⟩ := frun_all hadj n (by omega)
    obtain ⟨F', W', B', e', r'⟩ := frun_step (l := tab.drop (n + 1)) hadj r (ent_ok (by omega))
    exact ⟨F', W', B', by rw [e, drop_tab (by omega), e'], r'⟩
/-- the best figures of a graph -/
theorem frun_best {ts : List Int} {adj : Nat} (hadj : ∀ t, t < 5 → ts.getD t 0 = (dg 32 adj t : Int)) : (shSt ts 31).2.2 = (List.range 6).map fun k => ((dg 8 (fRun adj tab 1 0 0) k : Nat) : Int) := by
  obtain ⟨F, W, B, e, r⟩ := frun_all hadj 31 (Nat.le_refl _)
  have e' : fRun adj tab 1 0 0 = B := e
  rw [e']
  have hl := r.lb
  have hb := r.b
  generalize (shSt ts 31).2.2 = bs at hl hb
  match bs, hl with
  | [a, b, c, d, f, g], _ =>
    have h0 := hb 0 (by decide); have h1 := hb 1 (by decide); have h2 := hb 2 (by decide); have h3 := hb 3 (by decide); have h4 := hb 4 (by decide); have h5 := hb 5 (by decide)
    simp only [List.getD_cons_zero, List.getD_cons_succ] at h0 h1 h2 h3 h4 h5
    rw [h0, h1, h2, h3, h4, h5]; rfl
end Mine
end
section
open PySem PySem.W PyProof.Rows PySem.Calls
set_option maxRecDepth 100000
namespace Mine
/-- the ties of a graph in one number; its ten pairs are the ten figures of b -/
noncomputable def adjA (b : Nat) : Nat := b / 1 % 2 * 34 + b / 2 % 2 * 1028 + b / 4 % 2 * 2176 + b / 8 % 2 * 32776 + b / 16 % 2 * 65792 + b / 32 % 2 * 139264 + b / 64 % 2 * 1048592 + b / 128 % 2 * 2097664 + b / 256 % 2 * 4210688 + b / 512 % 2 * 8912896
noncomputable def ringB (b : Nat) : Bool := Nat.beq b 236 || Nat.beq b 242 || Nat.beq b 348 || Nat.beq b 369 || Nat.beq b 410 || Nat.beq b 425 || Nat.beq b 598 || Nat.beq b 613 || Nat.beq b 654 || Nat.beq b 675 || Nat.beq b 781 || Nat.beq b 787
noncomputable def pairB (p q : Nat) : Bool := (Nat.beq p 181896 && Nat.beq q 40) || (Nat.beq p 22736 && Nat.beq q 352) || (Nat.beq p 2840 && Nat.beq q 2840) || (Nat.beq p 2832 && Nat.beq q 344) || (Nat.beq p 352 && Nat.beq q 22736) || (Nat.beq p 344 && Nat.beq q 2832) || (Nat.beq p 40 && Nat.beq q 181896)
noncomputable def okB (b : Nat) : Bool := fz (adjA b) fun a => fz (adjA (1023 - b)) fun c => fz (fRun a tab 1 0 0) fun p => fz (fRun c tab 1 0 0) fun q => pairB p q || ringB b
noncomputable def bitR (b i j : Nat) : Bool := Nat.beq (b / 2 ^ (j * (j - 1) / 2 + i) % 2) 1
@[reducible] noncomputable def allB (P : Nat → Bool) (lo n : Nat) : Bool := Nat.rec (motive := fun _ => Bool) true (fun k ih => cond (P (lo + k)) ih false) n
theorem allB_ok {P : Nat → Bool} {lo : Nat} : ∀ {n : Nat}, allB P lo n = true → ∀ b, lo ≤ b → b < lo + n → P b = true
  | 0, _, b, h1, h2 => by omega
  | n + 1, h, b, h1, h2 => by
    have h' : cond (P (lo + n)) (allB P lo n) false = true := h
    cases hp : P (lo + n) with
    | false => rw [hp] at h'; cases h'
    | true =>
      rw [hp] at h'
      rcases Nat.lt_or_ge b (lo + n) with hb | hb
      · exact allB_ok h' b h1 hb
      · have : b = lo + n := by omega
        rw [this]; exact hp
theorem in_sixteen {P : Nat → Prop} (hs : ∀ i, i < 16 → ∀ k, k < 64 → P (64 * i + k)) (b : Nat) (h : b < 1024) : P b := by
  have z := hs (b / 64) (by omega) (b % 64) (by omega)
  rwa [Nat.div_add_mod] at z
theorem ok_0 : allB okB 0 64 = true := by decide +kernel
theorem ok_1 : allB okB 64 64 = true := by decide +kernel
theorem ok_2 : allB okB 128 64 = true := by decide +kernel
theorem ok_3 : allB okB 192 64 = true := by decide +kernel
theorem ok_4 : allB okB 256 64 = true := by decide +kernel
theorem ok_5 : allB okB 320 64 = true := by decide +kernel
theorem ok_6 : allB okB 384 64 = true := by decide +kernel
theorem ok_7 : allB okB 448 64 = true := by decide +kernel
theorem ok_8 : allB okB 512 64 = true := by decide +kernel
theorem ok_9 : allB okB 576 64 = true := by decide +kernel
theorem ok_10 : allB okB 640 64 = true := by decide +kernel
theorem ok_11 : allB okB 704 64 = true := by decide +kernel
theorem ok_12 : allB okB 768 64 = true := by decide +kernel
theorem ok_13 : allB okB 832 64 = true := by decide +kernel
theorem ok_14 : allB okB 896 64 = true := by decide +kernel
theorem ok_15 : allB okB 960 64 = true := by decide +kernel
theorem ok_any {b : Nat} (h : b < 1024) : okB b = true := by
  refine in_sixteen (P := fun b => okB b = true) (fun i hi k hk => ?_) b h
  match i, hi with
  | 0, _ => exact allB_ok ok_0 _ (by omega) (by omega)
  | 1, _ => exact allB_ok ok_1 _ (by omega) (by omega)
  | 2, _ => exact allB_ok ok_2 _ (by omega) (by omega)
  | 3, _ => exact allB_ok ok_3 _ (by omega) (by omega)
  | 4, _ => exact allB_ok ok_4 _ (by omega) (by omega)
  | 5, _ => exact allB_ok ok_5 _ (by omega) (by omega)
  | 6, _ => exact allB_ok ok_6 _ (by omega) (by omega)
  | 7, _ => exact allB_ok ok_7 _ (by omega) (by omega)
  | 8, _ => exact allB_ok ok_8 _ (by omega) (by omega)
  | 9, _ => exact allB_ok ok_9 _ (by omega) (by omega)
  | 10, _ => exact allB_ok ok_10 _ (by omega) (by omega)
  | 11, _ => exact allB_ok ok_11 _ (by omega) (by omega)
  | 12, _ => exact allB_ok ok_12 _ (by omega) (by omega)
  | 13, _ => exact allB_ok ok_13 _ (by omega) (by omega)
  | 14, _ => exact allB_ok ok_14 _ (by omega) (by omega)
  | 15, _ => exact allB_ok ok_15 _ (by omega) (by omega)
  | n + 16, h => omega
noncomputable def tieNum (b : Nat) : List Int := (List.range 5).map fun t => ((dg 32 (adjA b) t : Nat) : Int)
theorem ties_0 : ∀ k : Nat, k < 64 → tieOut (bitR (64 * 0 + k)) 5 = tieNum (64 * 0 + k) := by decide +kernel
theorem ties_1 : ∀ k : Nat, k < 64 → tieOut (bitR (64 * 1 + k)) 5 = tieNum (64 * 1 + k) := by decide +kernel
theorem ties_2 : ∀ k : Nat, k < 64 → tieOut (bitR (64 * 2 + k)) 5 = tieNum (64 * 2 + k) := by decide +kernel
theorem ties_3 : ∀ k : Nat, k < 64 → tieOut (bitR (64 * 3 + k)) 5 = tieNum (64 * 3 + k) := by decide +kernel
theorem ties_4 : ∀ k : Nat, k < 64 → tieOut (bitR (64 * 4 + k)) 5 = tieNum (64 * 4 + k) := by decide +kernel
theorem ties_5 : ∀ k : Nat, k < 64 → tieOut (bitR (64 * 5 + k)) 5 = tieNum (64 * 5 + k) := by decide +kernel
theorem ties_6 : ∀ k : Nat, k < 64 → tieOut (bitR (64 * 6 + k)) 5 = tieNum (64 * 6 + k) := by decide +kernel
theorem ties_7 : ∀ k : Nat, k < 64 → tieOut (bitR (64 * 7 + k)) 5 = tieNum (64 * 7 + k) := by decide +kernel
theorem ties_8 : ∀ k : Nat, k < 64 → tieOut (bitR (64 * 8 + k)) 5 = tieNum (64 * 8 + k) := by decide +kernel
theorem ties_9 : ∀ k : Nat, k < 64 → tieOut (bitR (64 * 9 + k)) 5 = tieNum (64 * 9 + k) := by decide +kernel
theorem ties_10 : ∀ k : Nat, k < 64 → tieOut (bitR (64 * 10 + k)) 5 = tieNum (64 * 10 + k) := by decide +kernel
theorem ties_11 : ∀ k : Nat, k < 64 → tieOut (bitR (64 * 11 + k)) 5 = tieNum (64 * 11 + k) := by decide +kernel
theorem ties_12 : ∀ k : Nat, k < 64 → tieOut (bitR (64 * 12 + k)) 5 = tieNum (64 * 12 + k) := by decide +kernel
theorem ties_13 : ∀ k : Nat, k < 64 → tieOut (bitR (64 * 13 + k)) 5 = tieNum (64 * 13 + k) := by decide +kernel
theorem ties_14 : ∀ k : Nat, k < 64 → tieOut (bitR (64 * 14 + k)) 5 = tieNum (64 * 14 + k) := by decide +kernel
theorem ties_15 : ∀ k : Nat, k < 64 → tieOut (bitR (64 * 15 + k)) 5 = tieNum (64 * 15 + k) := by decide +kernel
theorem rest_0 : ∀ k : Nat, k < 64 → (rangeKs 0 5).map (fun i => 31 - 2 ^ i.toNat - (tieNum (64 * 0 + k)).getD i.toNat 0) = tieNum (1023 - (64 * 0 + k)) := by decide +kernel
theorem rest_1 : ∀ k : Nat, k < 64 → (rangeKs 0 5).map (fun i => 31 - 2 ^ i.toNat - (tieNum (64 * 1 + k)).getD i.toNat 0) = tieNum (1023 - (64 * 1 + k)) := by decide +kernel
theorem rest_2 : ∀ k : Nat, k < 64 → (rangeKs 0 5).map (fun i => 31 - 2 ^ i.toNat - (tieNum (64 * 2 + k)).getD i.toNat 0) = tieNum (1023 - (64 * 2 + k)) := by decide +kernel
theorem rest_3 : ∀ k : Nat, k < 64 → (rangeKs 0 5).map (fun i => 31 - 2 ^ i.toNat - (tieNum (64 * 3 + k)).getD i.toNat 0) = tieNum (1023 - (64 * 3 + k)) := by decide +kernel
theorem rest_4 : ∀ k : Nat, k < 64 → (rangeKs 0 5).map (fun i => 31 - 2 ^ i.toNat - (tieNum (64 * 4 + k)).getD i.toNat 0) = tieNum (1023 - (64 * 4 + k)) := by decide +kernel
theorem rest_5 : ∀ k : Nat, k < 64 → (rangeKs 0 5).map (fun i => 31 - 2 ^ i.toNat - (tieNum (64 * 5 + k)).getD i.toNat 0) = tieNum (1023 - (64 * 5 + k)) := by decide +kernel
theorem rest_6 : ∀ k : Nat, k < 64 → (rangeKs 0 5).map (fun i => 31 - 2 ^ i.toNat - (tieNum (64 * 6 + k)).getD i.toNat 0) = tieNum (1023 - (64 * 6 + k)) := by decide +kernel
theorem rest_7 : ∀ k : Nat, k < 64 → (rangeKs 0 5).map (fun i => 31 - 2 ^ i.toNat - (tieNum (64 * 7 + k)).getD i.toNat 0) = tieNum (1023 - (64 * 7 + k)) := by decide +kernel
theorem rest_8 : ∀ k : Nat, k < 64 → (rangeKs 0 5).map (fun i => 31 - 2 ^ i.toNat - (tieNum (64 * 8 + k)).getD i.toNat 0) = tieNum (1023 - (64 * 8 + k)) := by decide +kernel
theorem rest_9 : ∀ k : Nat, k < 64 → (rangeKs 0 5).map (fun i => 31 - 2 ^ i.toNat - (tieNum (64 * 9 + k)).getD i.toNat 0) = tieNum (1023 - (64 * 9 + k)) := by decide +kernel
theorem rest_10 : ∀ k : Nat, k < 64 → (rangeKs 0 5).map (fun i => 31 - 2 ^ i.toNat - (tieNum (64 * 10 + k)).getD i.toNat 0) = tieNum (1023 - (64 * 10 + k)) := by decide +kernel
theorem rest_11 : ∀ k : Nat, k < 64 → (rangeKs 0 5).map (fun i => 31 - 2 ^ i.toNat - (tieNum (64 * 11 + k)).getD i.toNat 0) = tieNum (1023 - (64 * 11 + k)) := by decide +kernel
theorem rest_12 : ∀ k : Nat, k < 64 → (rangeKs 0 5).map (fun i => 31 - 2 ^ i.toNat - (tieNum (64 * 12 + k)).getD i.toNat 0) = tieNum (1023 - (64 * 12 + k)) := by decide +kernel
theorem rest_13 : ∀ k : Nat, k < 64 → (rangeKs 0 5).map (fun i => 31 - 2 ^ i.toNat - (tieNum (64 * 13 + k)).getD i.toNat 0) = tieNum (1023 - (64 * 13 + k)) := by decide +kernel
theorem rest_14 : ∀ k : Nat, k < 64 → (rangeKs 0 5).map (fun i => 31 - 2 ^ i.toNat - (tieNum (64 * 14 + k)).getD i.toNat 0) = tieNum (1023 - (64 * 14 + k)) := by decide +kernel
theorem rest_15 : ∀ k : Nat, k < 64 → (rangeKs 0 5).map (fun i => 31 - 2 ^ i.toNat - (tieNum (64 * 15 + k)).getD i.toNat 0) = tieNum (1023 - (64 * 15 + k)) := by decide +kernel
theorem ties_all (b : Nat) (h : b < 1024) : tieOut (bitR b) 5 = tieNum b := by
  refine in_sixteen (P := fun b => tieOut (bitR b) 5 = tieNum b) (fun i hi => ?_) b h
  match i, hi with
  | 0, _ => exact ties_0
  | 1, _ => exact ties_1
  | 2, _ => exact ties_2
  | 3, _ => exact ties_3
  | 4, _ => exact ties_4
  | 5, _ => exact ties_5
  | 6, _ => exact ties_6
  | 7, _ => exact ties_7
  | 8, _ => exact ties_8
  | 9, _ => exact ties_9
  | 10, _ => exact ties_10
  | 11, _ => exact ties_11
  | 12, _ => exact ties_12
  | 13, _ => exact ties_13
  | 14, _ => exact ties_14
  | 15, _ => exact ties_15
  | n + 16, h => omega
theorem rest_all (b : Nat) (h : b < 1024) : (rangeKs 0 5).map (fun i => 31 - 2 ^ i.toNat - (tieNum b).getD i.toNat 0) = tieNum (1023 - b) := by
  refine in_sixteen (P := fun b => (rangeKs 0 5).map (fun i => 31 - 2 ^ i.toNat - (tieNum b).getD i.toNat 0) = tieNum (1023 - b)) (fun i hi => ?_) b h
  match i, hi with
  | 0, _ => exact rest_0
  | 1, _ => exact rest_1
  | 2, _ => exact rest_2
  | 3, _ => exact rest_3
  | 4, _ => exact rest_4
  | 5, _ => exact rest_5
  | 6, _ => exact rest_6
  | 7, _ => exact rest_7
  | 8, _ => exact rest_8
  | 9, _ => exact rest_9
  | 10, _ => exact rest_10
  | 11, _ => exact rest_11
  | 12, _ => exact rest_12
  | 13, _ => exact rest_13
  | 14, _ => exact rest_14
  | 15, _ => exact rest_15
  | n + 16, h => omega
theorem tieNum_at (b : Nat) : ∀ t, t < 5 → (tieNum b).getD t 0 = (dg 32 (adjA b) t : Int) := by
  intro t ht
  have : t = 0 ∨ t = 1 ∨ t = 2 ∨ t = 3 ∨ t = 4 := by omega
  rcases this with rfl | rfl | rfl | rfl | rfl <;> rfl
/-- ten answers, one number -/
theorem bits_of : ∀ r0 r1 r2 r3 r4 r5 r6 r7 r8 r9 : Bool, (fun b : Nat => b < 1024 ∧ bitR b 0 1 = r0 ∧ bitR b 0 2 = r1 ∧ bitR b 1 2 = r2 ∧ bitR b 0 3 = r3 ∧ bitR b 1 3 = r4 ∧ bitR b 2 3 = r5 ∧ bitR b 0 4 = r6 ∧ bitR b 1 4 = r7 ∧ bitR b 2 4 = r8 ∧ bitR b 3 4 = r9)
    (r0.toNat + 2 * r1.toNat + 4 * r2.toNat + 8 * r3.toNat + 16 * r4.toNat + 32 * r5.toNat + 64 * r6.toNat + 128 * r7.toNat + 256 * r8.toNat + 512 * r9.toNat) := by decide +kernel
theorem tieIn_same {R S : Nat → Nat → Bool} {ts : List Int} {j : Nat} : ∀ {i : Nat}, (∀ k, k < i → R k j = S k j) → tieIn R ts j i = tieIn S ts j i
  | 0, _ => rfl
  | i + 1, h => by rw [tieIn, tieIn, tieIn_same (fun k hk => h k (by omega)), tieStep, tieStep, h i (by omega)]
theorem tie_same {R S : Nat → Nat → Bool} : ∀ {n : Nat}, (∀ i j, i < j → j < n → R i j = S i j) → tieOut R n = tieOut S n
  | 0, _ => rfl
  | n + 1, h => by rw [tieOut, tieOut, tie_same (fun i j hi hj => h i j hi (by omega)), tieIn_same (fun k hk => h k n hk (by omega))]
theorem graph_of (R : Nat → Nat → Bool) : ∃ b, b < 1024 ∧ ∀ i j, i < j → j < 5 → R i j = bitR b i j := by
  obtain ⟨hb, h0, h1, h2, h3, h4, h5, h6, h7, h8, h9⟩ := bits_of (R 0 1) (R 0 2) (R 1 2) (R 0 3) (R 1 3) (R 2 3) (R 0 4) (R 1 4) (R 2 4) (R 3 4)
  refine ⟨_, hb, fun i j hi hj => ?_⟩
  match j, hj, i, hi with
  | 0, _, _, hi => exact absurd hi (Nat.not_lt_zero _)
  | 1, _, 0, _ => exact h0.symm
  | 1, _, _ + 1, hi => exact absurd (Nat.lt_of_succ_lt_succ hi) (Nat.not_lt_zero _)
  | 2, _, 0, _ => exact h1.symm
  | 2, _, 1, _ => exact h2.symm
  | 2, _, _ + 2, hi => exact absurd (Nat.lt_of_succ_lt_succ (Nat.lt_of_succ_lt_succ hi)) (Nat.not_lt_zero _)
  | 3, _, 0, _ => exact h3.symm
  | 3, _, 1, _ => exact h4.symm
  | 3, _, 2, _ => exact h5.symm
  | 3, _, _ + 3, hi => exact absurd (Nat.lt_of_succ_lt_succ (Nat.lt_of_succ_lt_succ (Nat.lt_of_succ_lt_succ hi))) (Nat.not_lt_zero _)
  | 4, _, 0, _ => exact h6.symm
  | 4, _, 1, _ => exact h7.symm
  | 4, _, 2, _ => exact h8.symm
  | 4, _, 3, _ => exact h9.symm
  | 4, _, _ + 4, hi => exact absurd (Nat.lt_of_succ_lt_succ (Nat.lt_of_succ_lt_succ (Nat.lt_of_succ_lt_succ (Nat.lt_of_succ_lt_succ hi)))) (Nat.not_lt_zero _)
  | _ + 5, hj, _, _ => exact absurd (Nat.lt_of_succ_lt_succ (Nat.lt_of_succ_lt_succ (Nat.lt_of_succ_lt_succ (Nat.lt_of_succ_lt_succ (Nat.lt_of_succ_lt_succ hj))))) (Nat.not_lt_zero _)
/-- a ring is not to be had -/
theorem not_ring {ws : List Str} {b : Nat} (h : ∀ i j, i < j → j < 5 → ownR ws i j = bitR b i j) (hr : ringB b = true) : False := by
  have g : ∀ i j, i < 5 → j < 5 → i ≠ j → ownR ws i j = bitR b (min i j) (max i j) := fun i j hi hj hij => by
    rcases Nat.lt_or_gt_of_ne hij with hl | hl
    · rw [Nat.min_eq_left (by omega), Nat.max_eq_right (by omega)]; exact h i j hl hj
    · rw [Nat.min_eq_right (by omega), Nat.max_eq_left (by omega), own_symm]; exact h j i hl hi
  unfold ringB at hr
  simp only [Bool.or_eq_true, Nat.beq_eq] at hr
  rcases hr with (((((((((((rfl | rfl) | rfl) | rfl) | rfl) | rfl) | rfl) | rfl) | rfl) | rfl) | rfl) | rfl)
  · exact no_ring ws 0 3 2 1 4 ((g 0 3 (by decide) (by decide) (by decide)).trans (by decide)) ((g 3 2 (by decide) (by decide) (by decide)).trans (by decide)) ((g 2 1 (by decide) (by decide) (by decide)).trans (by decide)) ((g 1 4 (by decide) (by decide) (by decide)).trans (by decide)) ((g 4 0 (by decide) (by decide) (by decide)).trans (by decide)) ((g 0 2 (by decide) (by decide) (by decide)).trans (by decide)) ((g 3 1 (by decide) (by decide) (by decide)).trans (by decide)) ((g 2 4 (by decide) (by decide) (by decide)).trans (by decide)) ((g 1 0 (by decide) (by decide) (by decide)).trans (by decide)) ((g 4 3 (by decide) (by decide) (by decide)).trans (by decide))
  · exact no_ring ws 0 2 3 1 4 ((g 0 2 (by decide) (by decide) (by decide)).trans (by decide)) ((g 2 3 (by decide) (by decide) (by decide)).trans (by decide)) ((g 3 1 (by decide) (by decide) (by decide)).trans (by decide)) ((g 1 4 (by decide) (by decide) (by decide)).trans (by decide)) ((g 4 0 (by decide) (by decide) (by decide)).trans (by decide)) ((g 0 3 (by decide) (by decide) (by decide)).trans (by decide)) ((g 2 1 (by decide) (by decide) (by decide)).trans (by decide)) ((g 3 4 (by decide) (by decide) (by decide)).trans (by decide)) ((g 1 0 (by decide) (by decide) (by decide)).trans (by decide)) ((g 4 2 (by decide) (by decide) (by decide)).trans (by decide))
  · exact no_ring ws 0 3 1 2 4 ((g 0 3 (by decide) (by decide) (by decide)).trans (by decide)) ((g 3 1 (by decide) (by decide) (by decide)).trans (by decide)) ((g 1 2 (by decide) (by decide) (by decide)).trans (by decide)) ((g 2 4 (by decide) (by decide) (by decide)).trans (by decide)) ((g 4 0 (by decide) (by decide) (by decide)).trans (by decide)) ((g 0 1 (by decide) (by decide) (by decide)).trans (by decide)) ((g 3 2 (by decide) (by decide) (by decide)).trans (by decide)) ((g 1 4 (by decide) (by decide) (by decide)).trans (by decide)) ((g 2 0 (by decide) (by decide) (by decide)).trans (by decide)) ((g 4 3 (by decide) (by decide) (by decide)).trans (by decide))
  · exact no_ring ws 0 1 3 2 4 ((g 0 1 (by decide) (by decide) (by decide)).trans (by decide)) ((g 1 3 (by decide) (by decide) (by decide)).trans (by decide)) ((g 3 2 (by decide) (by decide) (by decide)).trans (by decide)) ((g 2 4 (by decide) (by decide) (by decide)).trans (by decide)) ((g 4 0 (by decide) (by decide) (by decide)).trans (by decide)) ((g 0 3 (by decide) (by decide) (by decide)).trans (by decide)) ((g 1 2 (by decide) (by decide) (by decide)).trans (by decide)) ((g 3 4 (by decide) (by decide) (by decide)).trans (by decide)) ((g 2 0 (by decide) (by decide) (by decide)).trans (by decide)) ((g 4 1 (by decide) (by decide) (by decide)).trans (by decide))
  · exact no_ring ws 0 2 4 1 3 ((g 0 2 (by decide) (by decide) (by decide)).trans (by decide)) ((g 2 4 (by decide) (by decide) (by decide)).trans (by decide)) ((g 4 1 (by decide) (by decide) (by decide)).trans (by decide)) ((g 1 3 (by decide) (by decide) (by decide)).trans (by decide)) ((g 3 0 (by decide) (by decide) (by decide)).trans (by decide)) ((g 0 4 (by decide) (by decide) (by decide)).trans (by decide)) ((g 2 1 (by decide) (by decide) (by decide)).trans (by decide)) ((g 4 3 (by decide) (by decide) (by decide)).trans (by decide)) ((g 1 0 (by decide) (by decide) (by decide)).trans (by decide)) ((g 3 2 (by decide) (by decide) (by decide)).trans (by decide))
  · exact no_ring ws 0 1 4 2 3 ((g 0 1 (by decide) (by decide) (by decide)).trans (by decide)) ((g 1 4 (by decide) (by decide) (by decide)).trans (by decide)) ((g 4 2 (by decide) (by decide) (by decide)).trans (by decide)) ((g 2 3 (by decide) (by decide) (by decide)).trans (by decide)) ((g 3 0 (by decide) (by decide) (by decide)).trans (by decide)) ((g 0 4 (by decide) (by decide) (by decide)).trans (by decide)) ((g 1 2 (by decide) (by decide) (by decide)).trans (by decide)) ((g 4 3 (by decide) (by decide) (by decide)).trans (by decide)) ((g 2 0 (by decide) (by decide) (by decide)).trans (by decide)) ((g 3 1 (by decide) (by decide) (by decide)).trans (by decide))
  · exact no_ring ws 0 2 1 3 4 ((g 0 2 (by decide) (by decide) (by decide)).trans (by decide)) ((g 2 1 (by decide) (by decide) (by decide)).trans (by decide)) ((g 1 3 (by decide) (by decide) (by decide)).trans (by decide)) ((g 3 4 (by decide) (by decide) (by decide)).trans (by decide)) ((g 4 0 (by decide) (by decide) (by decide)).trans (by decide)) ((g 0 1 (by decide) (by decide) (by decide)).trans (by decide)) ((g 2 3 (by decide) (by decide) (by decide)).trans (by decide)) ((g 1 4 (by decide) (by decide) (by decide)).trans (by decide)) ((g 3 0 (by decide) (by decide) (by decide)).trans (by decide)) ((g 4 2 (by decide) (by decide) (by decide)).trans (by decide))
  · exact no_ring ws 0 1 2 3 4 ((g 0 1 (by decide) (by decide) (by decide)).trans (by decide)) ((g 1 2 (by decide) (by decide) (by decide)).trans (by decide)) ((g 2 3 (by decide) (by decide) (by decide)).trans (by decide)) ((g 3 4 (by decide) (by decide) (by decide)).trans (by decide)) ((g 4 0 (by decide) (by decide) (by decide)).trans (by decide)) ((g 0 2 (by decide) (by decide) (by decide)).trans (by decide)) ((g 1 3 (by decide) (by decide) (by decide)).trans (by decide)) ((g 2 4 (by decide) (by decide) (by decide)).trans (by decide)) ((g 3 0 (by decide) (by decide) (by decide)).trans (by decide)) ((g 4 1 (by decide) (by decide) (by decide)).trans (by decide))
  · exact no_ring ws 0 2 1 4 3 ((g 0 2 (by decide) (by decide) (by decide)).trans (by decide)) ((g 2 1 (by decide) (by decide) (by decide)).trans (by decide)) ((g 1 4 (by decide) (by decide) (by decide)).trans (by decide)) ((g 4 3 (by decide) (by decide) (by decide)).trans (by decide)) ((g 3 0 (by decide) (by decide) (by decide)).trans (by decide)) ((g 0 1 (by decide) (by decide) (by decide)).trans (by decide)) ((g 2 4 (by decide) (by decide) (by decide)).trans (by decide)) ((g 1 3 (by decide) (by decide) (by decide)).trans (by decide)) ((g 4 0 (by decide) (by decide) (by decide)).trans (by decide)) ((g 3 2 (by decide) (by decide) (by decide)).trans (by decide))
  · exact no_ring ws 0 1 4 3 2 ((g 0 1 (by decide) (by decide) (by decide)).trans (by decide)) ((g 1 4 (by decide) (by decide) (by decide)).trans (by decide)) ((g 4 3 (by decide) (by decide) (by decide)).trans (by decide)) ((g 3 2 (by decide) (by decide) (by decide)).trans (by decide)) ((g 2 0 (by decide) (by decide) (by decide)).trans (by decide)) ((g 0 4 (by decide) (by decide) (by decide)).trans (by decide)) ((g 1 3 (by decide) (by decide) (by decide)).trans (by decide)) ((g 4 2 (by decide) (by decide) (by decide)).trans (by decide)) ((g 3 0 (by decide) (by decide) (by decide)).trans (by decide)) ((g 2 1 (by decide) (by decide) (by decide)).trans (by decide))
  · exact no_ring ws 0 1 2 4 3 ((g 0 1 (by decide) (by decide) (by decide)).trans (by decide)) ((g 1 2 (by decide) (by decide) (by decide)).trans (by decide)) ((g 2 4 (by decide) (by decide) (by decide)).trans (by decide)) ((g 4 3 (by decide) (by decide) (by decide)).trans (by decide)) ((g 3 0 (by decide) (by decide) (by decide)).trans (by decide)) ((g 0 2 (by decide) (by decide) (by decide)).trans (by decide)) ((g 1 4 (by decide) (by decide) (by decide)).trans (by decide)) ((g 2 3 (by decide) (by decide) (by decide)).trans (by decide)) ((g 4 0 (by decide) (by decide) (by decide)).trans (by decide)) ((g 3 1 (by decide) (by decide) (by decide)).trans (by decide))
  · exact no_ring ws 0 1 3 4 2 ((g 0 1 (by decide) (by decide) (by decide)).trans (by decide)) ((g 1 3 (by decide) (by decide) (by decide)).trans (by decide)) ((g 3 4 (by decide) (by decide) (by decide)).trans (by decide)) ((g 4 2 (by decide) (by decide) (by decide)).trans (by decide)) ((g 2 0 (by decide) (by decide) (by decide)).trans (by decide)) ((g 0 3 (by decide) (by decide) (by decide)).trans (by decide)) ((g 1 4 (by decide) (by decide) (by decide)).trans (by decide)) ((g 3 2 (by decide) (by decide) (by decide)).trans (by decide)) ((g 4 0 (by decide) (by decide) (by decide)).trans (by decide)) ((g 2 1 (by decide) (by decide) (by decide)).trans (by decide))
noncomputable def bestOf (p : Nat) : List Int := (List.range 6).map fun k => ((dg 8 p k : Nat) : Int)
structure Seven (cs ls : List Int) : Prop where
  it : (cs = [1, 1, 1, 1, 1] ∧ ls = [5]) ∨ (cs = [2, 1, 1, 1] ∧ ls = [4, 1]) ∨ (cs = [3, 1, 1] ∧ ls = [3, 1, 1]) ∨ (cs = [2, 2, 1] ∧ ls = [3, 2]) ∨ (cs = [4, 1] ∧ ls = [2, 1, 1, 1]) ∨ (cs = [3, 2] ∧ ls = [2, 2, 1]) ∨ (cs = [5] ∧ ls = [1, 1, 1, 1, 1])
theorem pair_seven {p q : Nat} (h : pairB p q = true) : Seven (posL (gainsL (bestOf p))) (posL (gainsL (bestOf q))) := by
  unfold pairB at h
  simp only [Bool.or_eq_true, Bool.and_eq_true, Nat.beq_eq] at h
  rcases h with ((((((⟨rfl, rfl⟩ | ⟨rfl, rfl⟩) | ⟨rfl, rfl⟩) | ⟨rfl, rfl⟩) | ⟨rfl, rfl⟩) | ⟨rfl, rfl⟩) | ⟨rfl, rfl⟩)
  · exact ⟨.inl ⟨by decide +kernel, by decide +kernel⟩⟩
  · exact ⟨.inr (.inl ⟨by decide +kernel, by decide +kernel⟩)⟩
  · exact ⟨.inr (.inr (.inl ⟨by decide +kernel, by decide +kernel⟩))⟩
  · exact ⟨.inr (.inr (.inr (.inl ⟨by decide +kernel, by decide +kernel⟩)))⟩
  · exact ⟨.inr (.inr (.inr (.inr (.inl ⟨by decide +kernel, by decide +kernel⟩))))⟩
  · exact ⟨.inr (.inr (.inr (.inr (.inr (.inl ⟨by decide +kernel, by decide +kernel⟩)))))⟩
  · exact ⟨.inr (.inr (.inr (.inr (.inr (.inr (⟨by decide +kernel, by decide +kernel⟩))))))⟩
theorem seven_shapes (ws : List Str) : Seven (shapeL (tieOut (toldR ws) 5)) (shapeL ((rangeKs 0 5).map fun i => 31 - 2 ^ i.toNat - (tieOut (ownR ws) 5).getD i.toNat 0)) := by
  obtain ⟨b, hb, hR⟩ := graph_of (ownR ws)
  rw [told_own_fun, tie_same hR, ties_all b hb, rest_all b hb]
  unfold shapeL
  rw [frun_best (tieNum_at b), frun_best (tieNum_at (1023 - b))]
  have h := ok_any hb
  unfold okB at h
  rw [fz_eq, fz_eq, fz_eq, fz_eq, Bool.or_eq_true] at h
  rcases h with h | h
  · exact pair_seven h
  · exact (not_ring hR h).elim
end Mine
end
section
open PySem PySem.W PyProof.Rows PySem.Calls
set_option maxRecDepth 100000
namespace Mine
/-- a call of a generator function -/
theorem gen_enter {prog : Program} {w : World} {A : Around} {s : Shared} {h₀ : Heap} {L : Addr} {m : Str → Option Value} {K : Frag} {p : Program} {loose : List Str} {mean : ExcName → Option Value} {mg mb : Str → Option Value}
    {R : Result → Shared → Prop} {name qual : Str} {params : Arguments} {body : List Stmt} {scope : Scope} {dV kV doc pm cdv ct oc : Value} {an od : Option Addr} {osl : Array (Option Value)} {f : Addr} {args : Args} {binds : List (Str × Value)}
    (F : Fr h₀ L s.heap m) (X₀ : K.In h₀) (T : Top p loose mean mg mb h₀)
    (ho : K.lookup f = some ⟨oc, od, .func (fnOf name qual params body scope dV kV doc pm an cdv ct), osl⟩) (hcd : codeIn K cdv qual = true) (hroom : A.depth < recursionLimit)
    (hbind : BindsTo s (fnOf name qual params body scope dV kV doc pm an cdv ct) args binds) (hloc : ∀ y ∈ binds, scope.names.lookup y.1 = some .local)
    (h : ∀ h₁ tk, Fr h₀ s.heap.objs.size h₁ (fun y => binds.reverse.lookup y) → (∀ b o, s.heap.get? b = some o → h₁.get? b = some o) → h₁.IsGen (s.heap.objs.size + 1) s.gens.size →
      R (.ok (.ret (.ref (s.heap.objs.size + 1)))) { s with gens := s.gens.push (.fresh (.func body (envOf qual scope s.heap.objs.size f cdv))), heap := h₁, toks := tk })
    (hco : scope.isCoroutine = false := by rfl) (hgen : scope.isGenerator = true := by rfl) (hk : scope.kind = .function := by rfl)
    (hcell : ∀ x ∈ scope.names, x.2 ≠ .cell := by decide) : codeAny (model prog w) A (.call (.ref f) args) R s := by
  have X := X₀.keeps F.keep
  refine codeAny_call_generator (fd := fnOf name qual params body scope dV kV doc pm an cdv ct) (body := body) hroom (X _ _ ho) rfl hco hgen rfl (codeRec_of X hcd) (hbind _ _ _ _ ?_)
  refine wpAny_newFunctionEnv hcell hloc (fun h₁ hns hsb => ⟨(T.nolimit.keeps F.keep).fresh _ hsb, ?_⟩) hk
  have up : ∀ b o, s.heap.get? b = some o → h₁.get? b = some o := fun b o e => hsb.extBut b o (Nat.ne_of_lt (Heap.lt_size e)) (Heap.get?_push_of_some _ e)
  have hsz : h₁.objs.size = s.heap.objs.size + 1 := by rw [hsb.1, Heap.size_push]
  have F₁ : Fr h₀ s.heap.objs.size h₁ (fun y => binds.reverse.lookup y) := ⟨hns, fun b o e => up b o (F.keep b o e), Nat.le_trans F.above (Nat.le_of_lt F.ns.lt)⟩
  have z := h (h₁.push { cls := .type "generator", data := .fields #[.int s.gens.size 0, .str name (s.toks + binds.length), .str qual (s.toks + binds.length + 1)] }) (s.toks + binds.length + 1 + 1)
    (F₁.keeps fun b o e => Heap.get?_push_of_some _ e) (fun b o e => Heap.get?_push_of_some _ (up b o e)) ?_
  · rw [← hsz] at z
    exact z
  · rw [← hsz]
    exact ⟨_, _, _, Heap.get?_push_size _ rfl, rfl, rfl, rfl⟩
end Mine
end
section
open PySem PySem.W PyProof.Rows PySem.Calls
set_option maxRecDepth 100000
namespace Mine
/-- where the generator of the groupings stands -/
inductive GS where
  | at (last : Option Int) (rest : List Int)
  | rep (v : Int)
/-- what it does next -/
inductive GO where
  | item (x : Int) (g : GS)
  | stop
  | err
noncomputable def GS.step : GS → GO
  | .at _ [] => .stop
  | .at last (x :: r) => if x = 127 then .stop else if x = 0 then (match last with | none => .err | some v => .item v (.rep v)) else .item x (.at (some x) r)
  | .rep v => .item v (.rep v)
/-- what a sleeping generator leans on -/
noncomputable def Own (h₀ : Heap) (FL It Rw : Addr) (a b : Heap) : Prop := ∀ c o, (c = FL ∨ c = It ∨ c = Rw ∨ h₀.get? c = some o) → a.get? c = some o → b.get? c = some o
/-- an iterator over a list -/
noncomputable def LI (o : Obj) : Prop := o.cls = .type "list_iterator" ∧ ∃ vs, o.data = .fields vs
/-- what a turn may change -/
noncomputable def Since (FL : Addr) (s s' : Shared) : Prop := ∃ h tk, s' = { s with heap := h, toks := tk } ∧ ∀ c o, c ≠ FL → ¬ LI o → s.heap.get? c = some o → h.get? c = some o
theorem Since.refl {FL : Addr} {s : Shared} : Since FL s s := ⟨_, _, rfl, fun _ _ _ _ e => e⟩
theorem Since.trans {FL : Addr} {a b c : Shared} (x : Since FL a b) (y : Since FL b c) : Since FL a c := by
  obtain ⟨h, tk, rfl, k⟩ := x
  obtain ⟨h', tk', rfl, k'⟩ := y
  exact ⟨h', tk', rfl, fun c o h1 h2 e => k' c o h1 h2 (k c o h1 h2 e)⟩
theorem Since.toks {FL : Addr} {s s' : Shared} {tk : Nat} (x : Since FL s s') : Since FL s { s' with toks := tk } := x.trans ⟨s'.heap, tk, rfl, fun _ _ _ _ e => e⟩
noncomputable abbrev GP (h₀ : Heap) (FL : Addr) (st : Nat → GS) : Nat → Shared → Shared → Prop := fun n s₀ s₁ => (st n).step = .stop ∧ Since FL s₀ s₁ ∧ ∃ m, Fr h₀ FL s₁.heap m
noncomputable abbrev GR (h₀ : Heap) (FL : Addr) (st : Nat → GS) : GenEnd := fun n s₀ r s₁ => r = .ok (.ret .none) ∧ GP h₀ FL st n s₀ s₁
noncomputable abbrev GY (h₀ : Heap) (FL Rw : Addr) (st : Nat → GS) : Protocol := fun n s₀ v s' kap => ∃ x g' t It, (st (n + 1)).step = .item x g' ∧ v = .int x t ∧ Since FL s₀ s' ∧
  (∃ k, s'.heap.IsListIter It Rw k) ∧ (∃ m, Fr h₀ FL s'.heap m) ∧ h₀.get? It = none ∧ (n ≠ 0 → ∀ s'', Own h₀ FL It Rw s'.heap s''.heap → kap (.send .none) s'')
/-- the value of the last interval -/
noncomputable def LastV (o : Option Int) (v : Value) : Prop := match o with | none => v = .none | some x => ∃ t, v = .int x t
theorem fr_own {h₀ : Heap} {FL It Rw : Addr} {a b : Heap} {m : Str → Option Value} (F : Fr h₀ FL a m) (O : Own h₀ FL It Rw a b) : Fr h₀ FL b m :=
  ⟨F.ns.at' fun o e => O _ o (.inl rfl) e, fun c o e => O c o (.inr (.inr (.inr e))) (F.keep c o e), F.above⟩
section
variable {prog : Program} {w : World} {h₀ : Heap} {FL f Rw : Addr} {qual : Str} {scope : Scope} {cdv : Value} {X Yn : Str} {t1 t2 t4 y1 y2 : Expr} {S3 S5 : Stmt} {p1 p2 p4 p5 p6 p7 p8 p9 px : Pos} {vs : List Value} {ns : List Int}
noncomputable abbrev gBody (t1 t2 t4 y1 y2 : Expr) (S3 S5 : Stmt) (p1 p2 p4 p5 p6 p7 p8 p9 : Pos) : List Stmt :=
  [.If t1 [.Return none p1] [] p2, .If t2 [S3, .While t4 [.Expr (.Yield (some y1) p4) p5] [] p6] [] p7, .Expr (.Yield (some y2) p8) p9, S5]
/-- what the pieces of the loop's body answer -/
structure GPieces (prog : Program) (w : World) (h₀ : Heap) (FL : Addr) (env : Env) (X Yn : Str) (px : Pos) (t1 t2 t4 y1 y2 : Expr) (S3 S5 : Stmt) : Prop where
  t1 : ∀ (A : Around) (s : Shared) m x t, A.handled = none → Fr h₀ FL s.heap m → m X = some (.int x t) → wpAny (model prog w) A (isTrue t1 env (eval t1 env)) (fun b s' => b = decide (x = 127) ∧ ∃ tk, s' = { s with toks := tk }) (fun _ _ => False) s
  t2 : ∀ (A : Around) (s : Shared) m x t, A.handled = none → Fr h₀ FL s.heap m → m X = some (.int x t) → wpAny (model prog w) A (isTrue t2 env (eval t2 env)) (fun b s' => b = decide (x = 0) ∧ ∃ tk, s' = { s with toks := tk }) (fun _ _ => False) s
  t4 : ∀ (A : Around) (s : Shared), wpAny (model prog w) A (isTrue t4 env (eval t4 env)) (fun b s' => b = true ∧ ∃ tk, s' = { s with toks := tk }) (fun _ _ => False) s
  y1 : ∀ (A : Around) (s : Shared) m v, Fr h₀ FL s.heap m → m Yn = some v → wpAny (model prog w) A (eval y1 env) (fun u s' => u = v ∧ ∃ tk, s' = { s with toks := tk }) (fun _ _ => False) s
  y2 : ∀ (A : Around) (s : Shared) m v, Fr h₀ FL s.heap m → m X = some v → wpAny (model prog w) A (eval y2 env) (fun u s' => u = v ∧ ∃ tk, s' = { s with toks := tk }) (fun _ _ => False) s
  s3 : ∀ (A : Around) (s : Shared) m x t, A.handled = none → Fr h₀ FL s.heap m → m Yn = some (.int x t) → wpAny (model prog w) A (exec S3 env) (fun fl s' => fl = .next ∧ ∃ tk, s' = { s with toks := tk }) (fun _ _ => False) s
  s5 : ∀ (A : Around) (s : Shared) m v, Fr h₀ FL s.heap m → m X = some v → wpAny (model prog w) A (exec S5 env) (fun fl s' => fl = .next ∧ ∃ h tk, s' = { s with heap := h, toks := tk } ∧ Heap.SameBut FL s.heap h ∧ Fr h₀ FL h (fun y => if y = Yn then some v else m y)) (fun _ _ => False) s
  tg : ∀ (A : Around) (s : Shared) m v, Fr h₀ FL s.heap m → wpAny (model prog w) A (assign (.Name X px) env v) (fun _ s' => ∃ h tk, s' = { s with heap := h, toks := tk } ∧ Heap.SameBut FL s.heap h ∧ Fr h₀ FL h (fun y => if y = X then some v else m y)) (fun _ _ => False) s
theorem GPieces.whileOne {A : Around} {st : Nat → GS} {env : Env} {fs : List Frame} {It : Addr} (hA : A.handled = none) (hhd : ∀ c, (A.over c fs).handled = none) (hsc : env.scope.isCoroutine = false) (hi : interactive env = false)
    (P : GPieces prog w h₀ FL env X Yn px t1 t2 t4 y1 y2 S3 S5) (hst : ∀ n x g', (st (n + 1)).step = .item x g' → st n = g') (hfs : splitAtGen fs = none) (hfg : fs.any Frame.guarded = false)
    (hIt : h₀.get? It = none) (n : Nat) (v : Int) (t : Tok) (m : Str → Option Value) (s₀ s : Shared) (hv : (st (n + 1)).step = .item v (.rep v)) (F : Fr h₀ FL s.heap m) (hm : m Yn = some (.int v t)) (hk : ∃ k, s.heap.IsListIter It Rw k) (hs : Since FL s₀ s)
    (next : n ≠ 0 → ∀ s'', Own h₀ FL It Rw s.heap s''.heap → Seg (model prog w) A (GR h₀ FL st) (GY h₀ FL Rw st) n s'' (.whileLoop t4 [.Expr (.Yield (some y1) p4) p5] [] env) ((model prog w).den (.whileLoop t4 [.Expr (.Yield (some y1) p4) p5] [] env)) fs s'') :
    Seg (model prog w) A (GR h₀ FL st) (GY h₀ FL Rw st) (n + 1) s₀ (.whileLoop t4 [.Expr (.Yield (some y1) p4) p5] [] env) ((model prog w).den (.whileLoop t4 [.Expr (.Yield (some y1) p4) p5] [] env)) fs s := by
  refine seg_whileLoop (wpAny_mono (P.t4 _ s) (fun b s₁ h₁ => ?_) fun _ _ x => x.elim)
  obtain ⟨rfl, tk, rfl⟩ := h₁
  rw [if_pos rfl]
  refine seg_execs_cons (seg_Expr_Yield hfs rfl hfg ?_ hsc hi)
  refine wpAny_mono (P.y1 _ { s with toks := tk } m _ F hm) (fun u s₂ h₂ => ?_) fun _ _ x => x.elim
  obtain ⟨rfl, tk₂, rfl⟩ := h₂
  intro kap hkap
  refine ⟨v, .rep v, t, It, hv, rfl, hs.toks, hk, ⟨m, F⟩, hIt, fun hn s'' O => hkap .none s'' ?_⟩
  show Seg _ _ _ _ n s'' _ _ fs s''
  exact seg_execs_nil (seg_again rfl (next hn s'' O))
theorem GPieces.whileAt {A : Around} {st : Nat → GS} {env : Env} {fs : List Frame} {It : Addr} (hA : A.handled = none) (hhd : ∀ c, (A.over c fs).handled = none) (hsc : env.scope.isCoroutine = false) (hi : interactive env = false)
    (P : GPieces prog w h₀ FL env X Yn px t1 t2 t4 y1 y2 S3 S5) (hst : ∀ n x g', (st (n + 1)).step = .item x g' → st n = g') (hfs : splitAtGen fs = none) (hfg : fs.any Frame.guarded = false)
    (hIt : h₀.get? It = none) : ∀ (n : Nat) (v : Int) (t : Tok) (m : Str → Option Value) (s₀ s : Shared), (st (n + 1)).step = .item v (.rep v) → Fr h₀ FL s.heap m → m Yn = some (.int v t) → (∃ k, s.heap.IsListIter It Rw k) → Since FL s₀ s →
      Seg (model prog w) A (GR h₀ FL st) (GY h₀ FL Rw st) (n + 1) s₀ (.whileLoop t4 [.Expr (.Yield (some y1) p4) p5] [] env) ((model prog w).den (.whileLoop t4 [.Expr (.Yield (some y1) p4) p5] [] env)) fs s := by
    intro n
    induction n with
    | zero =>
      intro v t m s₀ s hv F hm hk hs
      exact GPieces.whileOne hA hhd hsc hi P hst hfs hfg hIt 0 v t m s₀ s hv F hm hk hs fun h => absurd rfl h
    | succ n ih =>
      intro v t m s₀ s hv F hm hk hs
      refine GPieces.whileOne hA hhd hsc hi P hst hfs hfg hIt (n + 1) v t m s₀ s hv F hm hk hs fun _ s'' O => ?_
      refine ih v t m s'' s'' (by rw [hst _ _ _ hv]; rfl) (fr_own F O) hm ?_ Since.refl
      obtain ⟨k, o, ho, hc, hd⟩ := hk
      exact ⟨k, o, O _ o (.inr (.inl rfl)) ho, hc, hd⟩
/-- the ways back out of the loop -/
noncomputable def GBack (prog : Program) (w : World) (A : Around) (R : GenEnd) (Y : Protocol) (fs : List Frame) : Prop := ∀ n s₀ c fl s, (fl = .next ∨ fl = .ret .none) → R n s₀ (.ok (.ret .none)) s → Seg (model prog w) A R Y n s₀ c (leafOf (.ok fl)) fs s
theorem listiter_cls {h : Heap} {It Rw : Addr} {k : Nat} {c : Addr} {o : Obj} (hi : h.IsListIter It Rw k) (hc : ¬ LI o) (e : h.get? c = some o) : c ≠ It := by
  rintro rfl
  obtain ⟨o', ho', hc', hd'⟩ := hi
  rw [ho'] at e
  cases e
  exact hc ⟨hc', _, hd'⟩
theorem GPieces.for {A : Around} {st : Nat → GS} {c₀ : Code} {fs : List Frame} {It : Addr} {env : Env} (hL : env.locals = FL) (hA : A.handled = none) (hsc : env.scope.isCoroutine = false) (hi : interactive env = false)
    (hhd : ∀ c, (A.over c fs).handled = none) (hhd2 : ∀ c p k, (A.over c (.ret k none false [] c₀ p [] :: fs)).handled = none)
    (P : GPieces prog w h₀ FL env X Yn px t1 t2 t4 y1 y2 S3 S5) (hXY : Yn ≠ X) (hst : ∀ n x g', (st (n + 1)).step = .item x g' → st n = g') (hne : ∀ n, (st n).step ≠ .err) (hfs : splitAtGen fs = none) (hfg : fs.any Frame.guarded = false)
    (hback : GBack prog w A (GR h₀ FL st) (GY h₀ FL Rw st) fs) (hints : IntsAre vs ns) (hc₀ : c₀ = .forLoop (.Name X px) (.ref It) (gBody t1 t2 t4 y1 y2 S3 S5 p1 p2 p4 p5 p6 p7 p8 p9) [] env)
    (hIt : h₀.get? It = none) (hRw : h₀.get? Rw = none) (hIF : It ≠ FL) (hRF : Rw ≠ FL) (hRI : Rw ≠ It) : ∀ (n : Nat) (last : Option Int) (lv : Value) (k : Nat) (m : Str → Option Value) (s₀ s : Shared), n ≠ 0 → st n = .at last (ns.drop k) → Fr h₀ FL s.heap m → m Yn = some lv → LastV last lv → s.heap.IsListIter It Rw k → s.heap.IsList Rw vs.toArray → Since FL s₀ s →
      Seg (model prog w) A (GR h₀ FL st) (GY h₀ FL Rw st) n s₀ c₀ ((model prog w).den c₀) fs s
  | 0, last, lv, k, m, s₀, s, hn, _, _, _, _, _, _, _ => absurd rfl hn
  | n + 1, last, lv, k, m, s₀, s, _, hv, F, hm, hlv, hit, hl, hs => by
    subst hc₀
    refine seg_forLoop ?_
    have hlen := hints.length
    have hIt₀ : ∀ c o, h₀.get? c = some o → c ≠ It := fun c o e q => by rw [q, hIt] at e; cases e
    by_cases hk : k < ns.length
    · obtain ⟨t, ht'⟩ := hints.get k ns[k] (List.getElem?_eq_getElem hk)
      have ht : vs.toArray[k]? = some (.int ns[k] t) := by simpa using ht'
      clear ht'
      have hd : ns.drop k = ns[k] :: ns.drop (k + 1) := List.drop_eq_getElem_cons hk
      rw [hd] at hv
      generalize ns[k] = x at hv ht
      refine wpAny_pyNext_list_item hit hl ht fun h₁ hit₁ hs₁ => ?_
      have F₁ : Fr h₀ FL h₁ m := ⟨F.ns.sameBut hs₁ (Ne.symm hIF), fun c o e => hs₁.extBut c o (hIt₀ c o e) (F.keep c o e), F.above⟩
      have hl₁ : h₁.IsList Rw vs.toArray := hl.at fun o e => hs₁.extBut _ _ hRI e
      refine wpAny_pure (wpAny_mono (P.tg _ { s with heap := h₁ } m _ F₁) (fun _ s₂ h₂ => ?_) fun _ _ z => z.elim)
      obtain ⟨h₂, tk₂, rfl, hs₂, F₂⟩ := h₂
      have hit₂ : h₂.IsListIter It Rw (k + 1) := hit₁.at fun o e => hs₂.extBut _ _ hIF e
      have hl₂ : h₂.IsList Rw vs.toArray := hl₁.at fun o e => hs₂.extBut _ _ hRF e
      have since₂ : Since FL s₀ { s with heap := h₂, toks := tk₂ } := hs.trans ⟨h₂, tk₂, rfl, fun c o h1 h2 e => hs₂.extBut _ _ h1 (hs₁.extBut _ _ (listiter_cls hit h2 e) e)⟩
      have hmX : (fun y => if y = X then some (Value.int x t) else m y) X = some (.int x t) := by simp
      have hmY : (fun y => if y = X then some (Value.int x t) else m y) Yn = some lv := by simp only; rw [if_neg hXY]; exact hm
      generalize (fun y => if y = X then some (Value.int x t) else m y) = m₂ at F₂ hmX hmY
      refine seg_execs_cons (seg_If (wpAny_mono (P.t1 _ { s with heap := h₂, toks := tk₂ } m₂ x t (hhd _) F₂ hmX) (fun b s₃ h₃ => ?_) fun _ _ z => z.elim))
      obtain ⟨rfl, tk₃, rfl⟩ := h₃
      by_cases h127 : x = 127
      · rw [decide_eq_true h127, if_pos rfl]
        refine seg_execs_cons ?_
        rw [show exec (.Return none p1) env = (do standAt p1; return .ret .none) from rfl]
        refine seg_wrap (wpAny_bind (wpAny_standAt (wpAny_pure ?_)))
        refine hback _ _ _ (.ret .none) _ (.inr rfl) ⟨rfl, ?_, since₂.toks, _, F₂⟩
        rw [hv]
        show (if x = 127 then GO.stop else _) = _
        rw [if_pos h127]
      · rw [decide_eq_false h127, if_neg (by decide)]
        refine seg_execs_nil (seg_execs_cons (seg_If (wpAny_mono (P.t2 _ { s with heap := h₂, toks := tk₃ } m₂ x t (hhd _) F₂ hmX) (fun b s₄ h₄ => ?_) fun _ _ z => z.elim)))
        obtain ⟨rfl, tk₄, rfl⟩ := h₄
        by_cases h0 : x = 0
        · rw [decide_eq_true h0, if_pos rfl]
          cases last with
          | none =>
            refine absurd ?_ (hne (n + 1))
            rw [hv]
            show (if x = 127 then GO.stop else if x = 0 then GO.err else _) = _
            rw [if_neg h127, if_pos h0]
          | some v =>
            obtain ⟨tv, rfl⟩ := hlv
            refine seg_execs_cons (seg_wrap (wpAny_mono (P.s3 _ { s with heap := h₂, toks := tk₄ } m₂ v tv (hhd _) F₂ hmY) (fun fl s₅ h₅ => ?_) fun _ _ z => z.elim))
            obtain ⟨rfl, tk₅, rfl⟩ := h₅
            refine seg_execs_cons (seg_While fun p => ?_)
            have hstep : (st (n + 1)).step = .item v (.rep v) := by
              rw [hv]
              show (if x = 127 then GO.stop else if x = 0 then GO.item v (.rep v) else _) = _
              rw [if_neg h127, if_pos h0]
            refine GPieces.whileAt hA ?_ hsc hi P hst (by simp [splitAtGen, hfs]) (by simp [Frame.guarded, hfg]) hIt n v tv m₂ s₀ { s with heap := h₂, toks := tk₅ } hstep F₂ hmY ⟨_, hit₂⟩ since₂.toks
            intro c; exact hhd2 c p _
        · rw [decide_eq_false h0, if_neg (by decide)]
          have hstep : (st (n + 1)).step = .item x (.at (some x) (ns.drop (k + 1))) := by
            rw [hv]
            show (if x = 127 then GO.stop else if x = 0 then _ else GO.item x (.at (some x) (ns.drop (k + 1)))) = _
            rw [if_neg h127, if_neg h0]
          refine seg_execs_nil (seg_execs_cons (seg_Expr_Yield hfs rfl hfg ?_ hsc hi))
          refine wpAny_mono (P.y2 _ { s with heap := h₂, toks := tk₄ } m₂ _ F₂ hmX) (fun u s₅ h₅ => ?_) fun _ _ z => z.elim
          obtain ⟨rfl, tk₅, rfl⟩ := h₅
          intro kap hkap
          refine ⟨x, _, t, It, hstep, rfl, since₂.toks, ⟨_, hit₂⟩, ⟨_, F₂⟩, hIt, fun hn s'' O => hkap .none s'' ?_⟩
          show Seg _ _ _ _ n s'' _ _ fs s''
          have F₆ := fr_own F₂ O
          refine seg_execs_cons (seg_wrap (wpAny_mono (P.s5 _ s'' m₂ _ F₆ hmX) (fun fl s₇ h₇ => ?_) fun _ _ z => z.elim))
          obtain ⟨rfl, h₇, tk₇, rfl, hs₇, F₇⟩ := h₇
          refine seg_execs_nil (seg_again rfl ?_)
          refine GPieces.for hL hA hsc hi hhd hhd2 P hXY hst hne hfs hfg hback hints rfl hIt hRw hIF hRF hRI n (some x) _ (k + 1) _ s'' { s'' with heap := h₇, toks := tk₇ } hn (hst n x _ hstep) F₇ (by simp) ⟨t, rfl⟩ ?_ ?_ ⟨h₇, tk₇, rfl, fun c o h1 _ e => hs₇.extBut _ _ h1 e⟩
          · obtain ⟨o, ho, hc, hd⟩ := hit₂
            exact ⟨o, hs₇.extBut _ _ hIF (O _ o (.inr (.inl rfl)) ho), hc, hd⟩
          · exact hl₂.at fun o e => hs₇.extBut _ _ hRF (O _ o (.inr (.inr (.inl rfl))) e)
    · have hnil : ns.drop k = [] := List.drop_eq_nil_of_le (Nat.not_lt.mp hk)
      rw [hnil] at hv
      refine wpAny_pyNext_list_end (hhd _) hit hl (by simp; omega) fun h₁ hx₁ => ?_
      refine seg_again rfl ?_
      exact hback _ _ _ .next _ (.inl rfl) ⟨rfl, by rw [hv]; rfl, hs.trans ⟨h₁, s.toks, rfl, fun c o _ h2 e => hx₁ c o (listiter_cls hit h2 e) e⟩, m, ⟨F.ns.at' fun o e => hx₁ _ o (Ne.symm hIF) e, fun c o e => hx₁ c o (hIt₀ c o e) (F.keep c o e), F.above⟩⟩
end
end Mine
end
section
open PySem PySem.W PyProof.Rows PySem.Calls
open Sem (wp)
set_option maxRecDepth 100000
namespace Mine
section
variable {prog : Program} {w : World} {A : Around} {E : Value → Shared → Prop} {s : Shared}
/-- a turn of a generator function's generator that ends in a value or in its end -/
theorem gen_nextOf {a : Addr} {g n : Nat} {gs : GenState} {P : Nat → Shared → Shared → Prop} {Y : Protocol} {Q : Value → Shared → Prop} (hh : A.handled = none)
    (hl : s.heap.NoLimit) (hroom : A.depth < recursionLimit)
    (hg : s.heap.IsGen a g) (hgs : s.gens[g]? = some gs)
    (hgo : gs.Goes (model prog w) A.in1 (fun n s₀ r s₁ => r = .ok (.ret .none) ∧ P n s₀ s₁) Y n (.send .none) (s.setGen g .running))
    (hY : ∀ v s₁ gs', gs'.bare = true → Y (n - 1) (s.setGen g .running) v s₁ (fun r' s'' => match n with
        | 0 => False
        | m + 1 => gs'.Goes (model prog w) A.in1 (fun n s₀ r s₁ => r = .ok (.ret .none) ∧ P n s₀ s₁) Y m r' s'') → Q v (s₁.setGen g gs'))
    (hP : ∀ s₁, P n (s.setGen g .running) s₁ → ∀ h' e, (∀ b o, s₁.heap.get? b = some o → h'.get? b = some o) → (∃ o, h'.get? e = some o ∧ o.cls = .type "StopIteration") → E (.ref e) { s₁.setGen g .finished with heap := h' }) :
    wpAny (model prog w) A (Builtin.SmallTypes.nextOf (.ref a)) Q E s := by
  unfold Builtin.SmallTypes.nextOf
  refine wpAny_bind (wpAny_callSpecial?_slot (name := Str.ofString "__next__") hg.typeIs slot_gen_next
    (wpAny_call_entry slot_gen_next hg.typeIs entry_gen_next ?_ (args_gen_next _)))
  show wpAny _ A.in1 (Builtin.Generator.genWake (.ref a) (.send .none)) _ _ s
  unfold Builtin.Generator.genWake
  refine wpAny_bind (wpAny_holding (wpAny_genNumber hg (wpAny_bind (wpAny_genState hgs ?_))))
  cases gs with
  | running => exact hgo.elim
  | finished => exact hgo.elim
  | _ =>
    refine wpAny_bind (wpAny_roomToWake hl hroom ?_)
    show wpAny _ A.in1 (.resume g (.send .none) [] _) _ _ s
    refine wpAny_resumeQ hgs hgo (fun x s₁ hx => ?_) (fun v s₁ gs' hb hv => ?_)
    · obtain ⟨rfl, hp⟩ := hx
      show wpAny _ A.in1 (newExc (.type "StopIteration") [] >>= _) _ _ _
      refine wpAny_bind ?_
      simp only [newExc, newTuple]
      refine wpAny_bind (wpAny_newObj_type ?_ (by size_fits))
      refine wpAny_bind (m := firstArgMember _ _) (wpAny_of_eq (a := Value.none) (by first | rfl | (simp only [firstArgMember]; rfl)) ?_)
      refine wpAny_newObj_type ?_ (by size_fits)
      simp only [raiseNew]
      refine wpAny_bind (wpAny_bind (wpAny_handled ?_))
      first | rw [show A.in1.handled = none from hh] | rw [hh]
      refine wpAny_throw ?_
      exact hP s₁ hp _ _ (fun b o hb => Heap.get?_push_of_some _ (Heap.get?_push_of_some _ hb)) ⟨_, Heap.get?_push_size _ rfl, rfl⟩
    · exact wpAny_pure ⟨v, rfl, wpAny_pure (hY v s₁ gs' hb hv)⟩
theorem range_nextOf {it : Addr} {x left step : Int} {Q : Value → Shared → Prop} (hit : IsRangeIter s.heap it x left step) (hleft : 0 < left)
    (hQ : ∀ h', IsRangeIter h' it (x + step) (left - 1) step → Heap.SameBut it s.heap h' → Q (.int x s.toks) { s with heap := h', toks := s.toks + 1 }) :
    wpAny (model prog w) A (Builtin.SmallTypes.nextOf (.ref it)) Q E s := by
  have hT : s.TypeIs (.ref it) "range_iterator" := ⟨_, hit, rfl⟩
  unfold Builtin.SmallTypes.nextOf
  refine wpAny_bind (wpAny_callSpecial?_slot (name := Str.ofString "__next__") hT F.slot_range_iterator_next
    (call_meets F.slot_range_iterator_next hT F.entry_range_iterator_next (F.args_range_iterator_next_1 _) (AutoRange.range_iterator___next___range_iterator_1 it x left step (by omega)) ⟨hit, ?_⟩))
  exact wpAny_pure (hQ _ (Heap.get?_update_self _ (Heap.get?_update_self _ hit rfl) rfl) ((Heap.SameBut.update ..).trans (Heap.SameBut.update ..)))
theorem range_nextOf_end {it : Addr} {x left step : Int} {Q : Value → Shared → Prop} (hh : A.handled = none) (hit : IsRangeIter s.heap it x left step) (hleft : left ≤ 0)
    (hE : ∀ h' e, Heap.ExtBut it s.heap h' → (∃ o, h'.get? e = some o ∧ o.cls = .type "StopIteration") → E (.ref e) { s with heap := h' }) :
    wpAny (model prog w) A (Builtin.SmallTypes.nextOf (.ref it)) Q E s := by
  have hT : s.TypeIs (.ref it) "range_iterator" := ⟨_, hit, rfl⟩
  unfold Builtin.SmallTypes.nextOf
  refine wpAny_bind (wpAny_callSpecial?_slot (name := Str.ofString "__next__") hT F.slot_range_iterator_next
    (wpAny_call_entry F.slot_range_iterator_next hT F.entry_range_iterator_next ?_ (F.args_range_iterator_next_1 _)))
  show wpAny _ _ (field (.ref it) 0 >>= _) _ _ s
  refine wpAny_bind (wpAny_field hit rfl (x := rawInt x) rfl ?_)
  show wpAny _ _ (field (.ref it) 1 >>= _) _ _ s
  refine wpAny_bind (wpAny_field hit rfl (x := rawInt left) rfl ?_)
  show wpAny _ _ (field (.ref it) 2 >>= _) _ _ s
  refine wpAny_bind (wpAny_field hit rfl (x := rawInt step) rfl ?_)
  show wpAny _ _ (if left ≤ 0 then _ else _) _ _ s
  rw [if_pos hleft]
  refine wpAny_bind (wpAny_rule ?_)
  refine wpAny_bind ?_
  show wpAny _ _ (newExc (.type "StopIteration") [] >>= _) _ _ _
  refine wpAny_bind ?_
  simp only [newExc, newTuple]
  refine wpAny_bind (wpAny_newObj_type ?_ (by size_fits))
  refine wpAny_bind (m := firstArgMember _ _) (wpAny_of_eq (a := Value.none) (by first | rfl | (simp only [firstArgMember]; rfl)) ?_)
  refine wpAny_newObj_type ?_ (by size_fits)
  simp only [raiseNew]
  refine wpAny_bind (wpAny_handled ?_)
  rw [show A.in1.handled = none from hh]
  refine wpAny_throw ?_
  exact hE _ _ (((Heap.ExtBut.refl it s.heap).push _).push _) ⟨_, Heap.get?_push_size _ rfl, rfl⟩
/-- one pull of a zip of two -/
theorem zip_pull {z TI TO i1 i2 : Addr} {a b : Value} {Q : Value → Shared → Prop} (hTIz : TI ≠ z) (hTOz : TO ≠ z)
    (hz : IsZip s.heap z TI TO .none) (hTI : IsPair s.heap TI (.ref i1) (.ref i2)) (hTO : IsPair s.heap TO a b)
    (h : ∀ h₁, IsZip h₁ z TI TO .ellipsis → Heap.SameBut z s.heap h₁ → wpAny (model prog w) A (Builtin.SmallTypes.nextOf (.ref i1))
      (fun x s₂ => IsPair s₂.heap TO a b ∧ ∀ h₃, IsPair h₃ TO x b → Heap.SameBut TO s₂.heap h₃ → wpAny (model prog w) A (Builtin.SmallTypes.nextOf (.ref i2))
        (fun y s₄ => IsZip s₄.heap z TI TO .ellipsis ∧ IsPair s₄.heap TO x b ∧ ∀ h', IsZip h' z TI TO (rawInt s₄.heap.objs.size) → IsPair h' s₄.heap.objs.size x y → IsPair h' TO x y → (∀ c o, c ≠ z → c ≠ TO → s₄.heap.get? c = some o → h'.get? c = some o) → Q (.ref s₄.heap.objs.size) { s₄ with heap := h' })
        (fun e s₄ => IsZip s₄.heap z TI TO .ellipsis ∧ ∀ h', Heap.SameBut z s₄.heap h' → E e { s₄ with heap := h' }) { s₂ with heap := h₃ })
      (fun e s₂ => IsZip s₂.heap z TI TO .ellipsis ∧ ∀ h', Heap.SameBut z s₂.heap h' → E e { s₂ with heap := h' }) { s with heap := h₁ }) :
    wpAny (model prog w) A (Builtin.«zip.__next__» ⟨[.ref z], []⟩) (fun fin s' => ∃ v, fin = .done (.ret v) ∧ Q v s') E s := by
  show wpAny _ _ (field (.ref z) 2 >>= _) _ _ _
  refine wpAny_bind (wpAny_field hz rfl (x := .bool false) rfl ?_)
  show wpAny _ _ (field (.ref z) 3 >>= _) _ _ _
  refine wpAny_bind (wpAny_field hz rfl (x := .ref TI) rfl ?_)
  refine wpAny_bind (wpAny_seqItems hTI rfl ?_)
  show wpAny _ _ (Builtin.SmallTypes.ownedTupleIsFree (.ref z) >>= _) _ _ _
  refine wpAny_bind ?_
  unfold Builtin.SmallTypes.ownedTupleIsFree
  refine wpAny_bind (wpAny_field hz rfl (x := .none) rfl (wpAny_pure ?_))
  simp only [if_true]
  refine wpAny_bind (wpAny_rule ?_)
  refine wpAny_bind (wpAny_field hz rfl (x := .ref TO) rfl ?_)
  refine wpAny_bind (wpAny_setField_rec hz (by simp) fun h₁ hz₁ hs₁ => ?_)
  replace hz₁ : IsZip h₁ z TI TO .ellipsis := hz₁
  refine wpAny_bind ?_
  simp only [List.zipIdx_cons, List.zipIdx_nil, List.forIn_cons, List.forIn_nil]
  refine wpAny_bind (wpAny_bind (wpAny_onRaise ?_))
  show wpAny _ _ (Builtin.SmallTypes.nextOf (.ref i1) >>= _) _ _ _
  refine wpAny_bind (wpAny_mono (h h₁ hz₁ hs₁) (fun x s₂ h₂ => wpAny_pure ?_) fun e s₂ h₂ => ?_)
  · obtain ⟨hTO₂, h₂⟩ := h₂
    refine wpAny_bind (wpAny_seqItems hTO₂ rfl ?_)
    refine wpAny_bind (wpAny_updateSeq_pair hTO₂ fun h₃ hTO₃ hs₃ => ?_)
    replace hTO₃ : IsPair h₃ TO x b := hTO₃
    refine wpAny_bind (wpAny_letGo (wpAny_pure ?_))
    refine wpAny_bind (wpAny_bind (wpAny_onRaise ?_))
    show wpAny _ _ (Builtin.SmallTypes.nextOf (.ref i2) >>= _) _ _ _
    refine wpAny_bind (wpAny_mono (h₂ h₃ hTO₃ hs₃) (fun y s₄ h₄ => wpAny_pure ?_) fun e s₄ h₄ => ?_)
    · obtain ⟨hz₄, hTO₄, h₄⟩ := h₄
      refine wpAny_bind (wpAny_seqItems hTO₄ rfl ?_)
      refine wpAny_bind (wpAny_updateSeq_pair hTO₄ fun h₅ hTO₅ hs₅ => ?_)
      replace hTO₅ : IsPair h₅ TO x y := hTO₅
      refine wpAny_bind (wpAny_letGo (wpAny_pure (wpAny_pure ?_)))
      refine wpAny_bind (wpAny_seqItems hTO₅ rfl ?_)
      refine wpAny_bind (wpAny_newTuple ?_)
      have hsz : h₅.objs.size = s₄.heap.objs.size := hs₅.1
      have hz₅ : IsZip h₅ z TI TO .ellipsis := hs₅.extBut _ _ (Ne.symm hTOz) hz₄
      have hzlt : z < h₅.objs.size := Heap.lt_size hz₅
      show wpAny _ _ (Builtin.SmallTypes.ownedTupleHandOut (.ref z) (.ref h₅.objs.size) >>= _) _ _ _
      refine wpAny_bind ?_
      unfold Builtin.SmallTypes.ownedTupleHandOut
      have hz₆ : IsZip (h₅.push { cls := .type "tuple", data := .seq #[x, y] }) z TI TO .ellipsis := Heap.get?_push_of_some _ hz₅
      refine wpAny_bind (wpAny_setField_rec hz₆ (by simp) fun h₇ hz₇ hs₇ => ?_)
      replace hz₇ : IsZip h₇ z TI TO (rawInt h₅.objs.size) := hz₇
      refine wpAny_setField_rec hz₇ (by simp) fun h₈ hz₈ hs₈ => ?_
      replace hz₈ : IsZip h₈ z TI TO (rawInt h₅.objs.size) := hz₈
      have up : ∀ c o, c ≠ z → h₅.get? c = some o → h₈.get? c = some o := fun c o c1 e => hs₈.extBut _ _ c1 (hs₇.extBut _ _ c1 (Heap.get?_push_of_some _ e))
      have hT₈ : IsPair h₈ h₅.objs.size x y := hs₈.extBut _ _ (Nat.ne_of_gt hzlt) (hs₇.extBut _ _ (Nat.ne_of_gt hzlt) (Heap.get?_push_size _ rfl))
      rw [hsz] at hz₈ hT₈
      refine wpAny_pure ⟨_, rfl, ?_⟩
      show Q (.ref h₅.objs.size) _
      rw [hsz]
      exact h₄ h₈ hz₈ hT₈ (up _ _ hTOz hTO₅) fun c o c1 c2 e => up c o c1 (hs₅.extBut _ _ c2 e)
    · obtain ⟨hz₄, h₄⟩ := h₄
      exact wpAny_setField_rec hz₄ (by simp) fun h₅ _ hs₅ => h₄ h₅ hs₅
  · obtain ⟨hz₂, h₂⟩ := h₂
    exact wpAny_setField_rec hz₂ (by simp) fun h₃ _ hs₃ => h₂ h₃ hs₃
/-- the same, pulled by a loop -/
theorem zip_pyNext {z TI TO i1 i2 : Addr} {a b : Value} {Q : Option Value → Shared → Prop} (hTIz : TI ≠ z) (hTOz : TO ≠ z)
    (hz : IsZip s.heap z TI TO .none) (hTI : IsPair s.heap TI (.ref i1) (.ref i2)) (hTO : IsPair s.heap TO a b)
    (h : ∀ h₁, IsZip h₁ z TI TO .ellipsis → Heap.SameBut z s.heap h₁ → wpAny (model prog w) A.in1 (Builtin.SmallTypes.nextOf (.ref i1))
      (fun x s₂ => IsPair s₂.heap TO a b ∧ ∀ h₃, IsPair h₃ TO x b → Heap.SameBut TO s₂.heap h₃ → wpAny (model prog w) A.in1 (Builtin.SmallTypes.nextOf (.ref i2))
        (fun y s₄ => IsZip s₄.heap z TI TO .ellipsis ∧ IsPair s₄.heap TO x b ∧ ∀ h', IsZip h' z TI TO (rawInt s₄.heap.objs.size) → IsPair h' s₄.heap.objs.size x y → IsPair h' TO x y → (∀ c o, c ≠ z → c ≠ TO → s₄.heap.get? c = some o → h'.get? c = some o) → Q (some (.ref s₄.heap.objs.size)) { s₄ with heap := h' })
        (fun e s₄ => IsZip s₄.heap z TI TO .ellipsis ∧ ∀ h', Heap.SameBut z s₄.heap h' → wpAny (model prog w) A (isInstance e (.type "StopIteration")) (fun q s₅ => if q = true then Q none s₅ else E e s₅) E { s₄ with heap := h' }) { s₂ with heap := h₃ })
      (fun e s₂ => IsZip s₂.heap z TI TO .ellipsis ∧ ∀ h', Heap.SameBut z s₂.heap h' → wpAny (model prog w) A (isInstance e (.type "StopIteration")) (fun q s₅ => if q = true then Q none s₅ else E e s₅) E { s₂ with heap := h' }) { s with heap := h₁ }) :
    wpAny (model prog w) A (pyNext (.ref z)) Q E s := by
  have hT : s.TypeIs (.ref z) "zip" := ⟨_, hz, rfl⟩
  unfold pyNext
  refine wpAny_bind (wpAny_attempt (wpAny_callSpecial?_slot (name := Str.ofString "__next__") hT F.slot_zip_next
    (wpAny_call_entry F.slot_zip_next hT F.entry_zip_next
      (wpAny_mono (zip_pull (Q := fun v s' => Q (some v) s') (E := fun e s' => wpAny (model prog w) A (isInstance e (.type "StopIteration")) (fun q s₅ => if q = true then Q none s₅ else E e s₅) E s') hTIz hTOz hz hTI hTO h)
        (fun fin s' hf => ?_) fun e s' he => ?_) (F.args_zip_next_1 _))))
  · obtain ⟨v, rfl, hq⟩ := hf
    exact ⟨v, rfl, wpAny_pure hq⟩
  · show wpAny _ A (isInstance e (.type "StopIteration") >>= fun b => if b = true then pure none else throw e) _ _ _
    refine wpAny_bind (wpAny_mono he (fun q s₅ h₅ => ?_) fun _ _ x => x)
    cases q with
    | true => exact wpAny_pure h₅
    | false => exact wpAny_throw h₅
end
end Mine
end
section
open PySem PySem.W PyProof.Rows PySem.Calls
open Sem (wp)
set_option maxRecDepth 100000
namespace Mine
/-- what may not be touched while the generator sleeps -/
noncomputable def KeepG (h₀ : Heap) (FL Rw : Addr) (a b : Heap) : Prop := ∀ c o, (c = FL ∨ c = Rw ∨ LI o ∨ h₀.get? c = some o) → a.get? c = some o → b.get? c = some o
theorem KeepG.refl {h₀ : Heap} {FL Rw : Addr} {a : Heap} : KeepG h₀ FL Rw a a := fun _ _ _ e => e
theorem KeepG.trans {h₀ : Heap} {FL Rw : Addr} {a b c : Heap} (x : KeepG h₀ FL Rw a b) (y : KeepG h₀ FL Rw b c) : KeepG h₀ FL Rw a c := fun d o h e => y d o h (x d o h e)
theorem KeepG.own {h₀ : Heap} {FL Rw It : Addr} {a b : Heap} (x : KeepG h₀ FL Rw a b) (hIt : ∀ o, a.get? It = some o → LI o) : Own h₀ FL It Rw a b := fun c o h e => by
  rcases h with rfl | rfl | rfl | h
  · exact x _ o (.inl rfl) e
  · exact x _ o (.inr (.inr (.inl (hIt o e)))) e
  · exact x _ o (.inr (.inl rfl)) e
  · exact x _ o (.inr (.inr (.inr h))) e
structure Coh (st : Nat → GS) : Prop where
  next : ∀ n x g', (st (n + 1)).step = .item x g' → st n = g'
  sound : ∀ n, (st n).step ≠ .err
/-- a generator that still has n pulls to answer -/
structure GLive (prog : Program) (w : World) (A : Around) (h₀ : Heap) (a : Addr) (g : Nat) (FL Rw : Addr) (n : Nat) (cur : GS) (s : Shared) : Prop where
  gen : s.heap.IsGen a g
  ne : a ≠ FL
  fr : ∃ m, Fr h₀ FL s.heap m
  goes : ∃ gs, s.gens[g]? = some gs ∧ (n ≠ 0 → ∃ st, Coh st ∧ st n = cur ∧ ∀ s'', KeepG h₀ FL Rw s.heap s''.heap → gs.Goes (model prog w) A.in1 (GR h₀ FL st) (GY h₀ FL Rw st) n (.send .none) s'')
section
variable {prog : Program} {w : World} {A : Around} {E : Value → Shared → Prop} {s : Shared}
theorem GLive.keep {h₀ : Heap} {a : Addr} {g : Nat} {FL Rw : Addr} {n : Nat} {cur : GS} {s' : Shared} (G : GLive prog w A h₀ a g FL Rw n cur s) (hk : KeepG h₀ FL Rw s.heap s'.heap) (ha : s'.heap.IsGen a g) (hg : s'.gens = s.gens) : GLive prog w A h₀ a g FL Rw n cur s' := by
  obtain ⟨_, h2, ⟨m, F⟩, gs, hgs, hgo⟩ := G
  refine ⟨ha, h2, ⟨m, F.ns.at' fun o e => hk _ o (.inl rfl) e, fun c o e => hk c o (.inr (.inr (.inr e))) (F.keep c o e), F.above⟩, gs, hg ▸ hgs, fun hn => ?_⟩
  obtain ⟨st, hc, hs, hG⟩ := hgo hn
  exact ⟨st, hc, hs, fun s'' k => hG s'' (hk.trans k)⟩
theorem gen_pull {h₀ : Heap} {a : Addr} {g : Nat} {FL Rw : Addr} {n : Nat} {cur : GS} {Q : Value → Shared → Prop} (hh : A.handled = none) (hroom : A.depth < recursionLimit) (hlim : h₀.NoLimit) (hn : n ≠ 0)
    (G : GLive prog w A h₀ a g FL Rw n cur s)
    (hQ : ∀ x g' t h' tk' gens', cur.step = .item x g' → GLive prog w A h₀ a g FL Rw (n - 1) g' { s with heap := h', toks := tk', gens := gens' } → (∀ c o, c ≠ FL → ¬ LI o → s.heap.get? c = some o → h'.get? c = some o) → GenOnlyQ g s.gens gens' →
      Q (.int x t) { s with heap := h', toks := tk', gens := gens' })
    (hE : ∀ e h' tk' gens', cur.step = .stop → (∃ m, Fr h₀ FL h' m) → (∃ o, h'.get? e = some o ∧ o.cls = .type "StopIteration") → (∀ c o, c ≠ FL → ¬ LI o → s.heap.get? c = some o → h'.get? c = some o) → GenOnlyQ g s.gens gens' →
      E (.ref e) { s with heap := h', toks := tk', gens := gens' }) :
    wpAny (model prog w) A (Builtin.SmallTypes.nextOf (.ref a)) Q E s := by
  obtain ⟨hg, haF, ⟨m, F⟩, gs, hgs, hgo⟩ := G
  obtain ⟨st, hc, hs, hG⟩ := hgo hn
  obtain ⟨k, rfl⟩ : ∃ k, n = k + 1 := ⟨n - 1, by omega⟩
  refine gen_nextOf (P := GP h₀ FL st) (Y := GY h₀ FL Rw st) hh (hlim.keeps F.keep) hroom hg hgs (hG _ KeepG.refl) (fun v s₁ gs' hb hv => ?_) (fun s₁ hp h' e hk he => ?_)
  · obtain ⟨x, g', t, It, hstep, rfl, ⟨h₁, tk₁, rfl, hk₁⟩, ⟨kk, hit⟩, ⟨m', F'⟩, hIt, hkap⟩ := hv
    have hstep' : (st (k + 1)).step = .item x g' := hstep
    refine hQ x g' t h₁ tk₁ _ (by rw [← hs]; exact hstep') ⟨?_, haF, ⟨m', F'⟩, gs', setGen_self (gs := .running) (setGen_self hgs), fun hk0 => ⟨st, hc, hc.next k x g' hstep', fun s'' K => ?_⟩⟩ hk₁
      (GenOnlyQ.of ((GenOnly.setGen s g .running).trans (GenOnly.setGen _ g gs')) (setGen_self (gs := .running) (setGen_self hgs)) hb)
    · obtain ⟨o, nm, qn, ho, hcl, r⟩ := hg
      exact ⟨o, nm, qn, hk₁ a o haF (fun z => by have := z.1; rw [hcl] at this; simp at this) ho, hcl, r⟩
    · refine hkap hk0 s'' (K.own fun o e => ?_)
      obtain ⟨o', ho', hc', hd'⟩ := hit
      have e' : h₁.get? It = some o := e
      have ho'' : h₁.get? It = some o' := ho'
      rw [ho''] at e'
      cases e'
      exact ⟨hc', _, hd'⟩
  · obtain ⟨hstop, ⟨h₁, tk₁, rfl, hk₁⟩, m', F'⟩ := hp
    exact hE e h' tk₁ _ (by rw [← hs]; exact hstop) ⟨m', F'.keeps hk⟩ he (fun c o h1 h2 x => hk c o (hk₁ c o h1 h2 x))
      (GenOnlyQ.of ((GenOnly.setGen s g .running).trans (GenOnly.setGen _ g .finished)) (setGen_self (gs := .running) (setGen_self hgs)) rfl)
end
end Mine
end
section
open PySem PySem.W PyProof.Rows PySem.Calls
open Sem (wp)
set_option maxRecDepth 100000
namespace Mine
noncomputable def GS.after (g : GS) : Nat → GS
  | 0 => g
  | k + 1 => match (g.after k).step with
    | .item _ g' => g'
    | _ => g.after k
theorem GS.sound_next {g g' : GS} {x : Int} (h : g.step = .item x g') : g'.step ≠ .err := by
  have some_ok : ∀ (v : Int) (r : List Int), (GS.at (some v) r).step ≠ .err := fun v r => by
    cases r with
    | nil => simp [GS.step]
    | cons y r =>
      simp only [GS.step]
      split
      · simp
      · split <;> simp
  cases g with
  | rep v =>
    simp only [GS.step, GO.item.injEq] at h
    rw [← h.2]; simp [GS.step]
  | «at» last rest =>
    cases rest with
    | nil => simp [GS.step] at h
    | cons y r =>
      simp only [GS.step] at h
      split at h
      · cases h
      · split at h
        · cases last with
          | none => cases h
          | some v =>
            simp only [GO.item.injEq] at h
            rw [← h.2]; simp [GS.step]
        · simp only [GO.item.injEq] at h
          rw [← h.2]; exact some_ok _ _
theorem GS.after_sound {g : GS} (h : g.step ≠ .err) : ∀ k, (g.after k).step ≠ .err
  | 0 => h
  | k + 1 => by
    unfold GS.after
    split
    · rename_i x g' e; exact GS.sound_next e
    · exact GS.after_sound h k
theorem coh_of {g : GS} (h : g.step ≠ .err) (n : Nat) : ∃ st, Coh st ∧ st n = g := by
  refine ⟨fun m => if m ≤ n then g.after (n - m) else .at none [], ⟨fun m x g' e => ?_, fun m => ?_⟩, by simp [GS.after]⟩
  · by_cases hm : m + 1 ≤ n
    · rw [if_pos hm] at e
      rw [if_pos (by omega), show n - m = (n - (m + 1)) + 1 by omega, GS.after, e]
    · rw [if_neg hm] at e; cases e
  · split
    · exact GS.after_sound h _
    · simp [GS.step]
theorem seg_pure_leaf {M : Model} {A : Around} {R : GenEnd} {Y : Protocol} {n s₀ c fs s} (r : Flow) (h : Seg M A R Y n s₀ c (leafOf (.ok r)) fs s) : Seg M A R Y n s₀ c (.pure (.done r)) fs s := h
section
variable {prog : Program} {w : World} {h₀ : Heap} {FL f Rw : Addr} {qual : Str} {scope : Scope} {cdv : Value} {X Yn Gn : Str} {t1 t2 t4 y1 y2 : Expr} {S0 S3 S5 : Stmt} {p1 p2 p4 p5 p6 p7 p8 p9 px pf pg : Pos} {vs : List Value} {ns : List Int}
theorem gen_live_fresh {A : Around} {env : Env} {a : Addr} {g : Nat} {m : Str → Option Value} {s : Shared} (hL : env.locals = FL) (hA : A.handled = none) (hsc : env.scope.isCoroutine = false) (hi : interactive env = false)
    (P : GPieces prog w h₀ FL env X Yn px t1 t2 t4 y1 y2 S3 S5) (hXY : Yn ≠ X) (hYG : Gn ≠ Yn)
    (P0 : ∀ (A : Around) (s : Shared) m, Fr h₀ FL s.heap m → wpAny (model prog w) A (exec S0 env) (fun fl s' => fl = .next ∧ ∃ h tk, s' = { s with heap := h, toks := tk } ∧ Heap.SameBut FL s.heap h ∧ Fr h₀ FL h (fun y => if y = Yn then some Value.none else m y)) (fun _ _ => False) s)
    (PI : ∀ (A : Around) (s : Shared) m v, Fr h₀ FL s.heap m → m Gn = some v → wpAny (model prog w) A (eval (.Name Gn pg) env) (fun u s' => u = v ∧ ∃ tk, s' = { s with toks := tk }) (fun _ _ => False) s)
    (hints : IntsAre vs ns) (h0 : (GS.at none ns).step ≠ .err) (F : Fr h₀ FL s.heap m) (hm : m Gn = some (.ref Rw)) (hl : s.heap.IsList Rw vs.toArray) (hRw : h₀.get? Rw = none) (hRF : Rw ≠ FL)
    (hg : s.heap.IsGen a g) (haF : a ≠ FL) (hgs : s.gens[g]? = some (.fresh (.func [S0, .For (.Name X px) (.Name Gn pg) (gBody t1 t2 t4 y1 y2 S3 S5 p1 p2 p4 p5 p6 p7 p8 p9) [] pf] env))) (n : Nat) :
    GLive prog w A h₀ a g FL Rw n (.at none ns) s := by
  refine ⟨hg, haF, ⟨m, F⟩, _, hgs, fun hn => ?_⟩
  obtain ⟨st, hc, hs⟩ := coh_of h0 n
  refine ⟨st, hc, hs, fun s'' K => ⟨rfl, seg_func ?_⟩⟩
  have F'' : Fr h₀ FL s''.heap m := ⟨F.ns.at' fun o e => K _ o (.inl rfl) e, fun c o e => K c o (.inr (.inr (.inr e))) (F.keep c o e), F.above⟩
  have hl'' : s''.heap.IsList Rw vs.toArray := hl.at fun o e => K _ o (.inr (.inl rfl)) e
  refine seg_execs_cons (seg_wrap (wpAny_mono (P0 _ s'' m F'') (fun fl s₁ h₁ => ?_) fun _ _ x => x.elim))
  obtain ⟨rfl, h₁, tk₁, rfl, hs₁, F₁⟩ := h₁
  have hl₁ : h₁.IsList Rw vs.toArray := hl''.at fun o e => hs₁.extBut _ _ hRF e
  refine seg_execs_cons (seg_For ?_)
  refine wpAny_mono (PI _ { s'' with heap := h₁, toks := tk₁ } _ (.ref Rw) F₁ (by rw [if_neg hYG]; exact hm)) (fun u s₂ h₂ => ?_) fun _ _ x => x.elim
  obtain ⟨rfl, tk₂, rfl⟩ := h₂
  refine wpAny_pyIter_list (s := { s'' with heap := h₁, toks := tk₂ }) hl₁ ?_
  intro p
  have hFLlt : FL < h₁.objs.size := by have := F₁.ns.lt; exact this
  have hRlt : Rw < h₁.objs.size := by obtain ⟨_, e, _⟩ := hl₁; exact Heap.lt_size e
  have up : ∀ c o, h₁.get? c = some o → (h₁.push { cls := .type "list_iterator", data := .fields #[.ref Rw, .int 0 0] }).get? c = some o := fun c o e => Heap.get?_push_of_some _ e
  refine GPieces.for (A := A.in1) (It := h₁.objs.size) (m := fun y => if y = Yn then some Value.none else m y) hL (show A.in1.handled = none from hA) hsc hi ?hd1 ?hd2 P hXY hc.next hc.sound ?sp ?gd ?back hints rfl
    (Heap.get?_none_of_le (Nat.le_trans F₁.above (Nat.le_of_lt hFLlt))) hRw (Nat.ne_of_gt hFLlt) hRF (Nat.ne_of_lt hRlt) n none .none 0 s'' _ hn hs ?fr (by simp) rfl ?it ?li ?si
  case hd1 => intro c; simp [Around.over, marksOver, Frame.marks, markOver, show A.in1.handled = none from hA]
  case hd2 => intro c p' k; simp [Around.over, marksOver, Frame.marks, markOver, show A.in1.handled = none from hA]
  case sp => rfl
  case gd => rfl
  case fr => exact F₁.keeps up
  case it => exact ⟨_, Heap.get?_push_size _ rfl, rfl, rfl⟩
  case li => exact hl₁.push _
  case si => exact ⟨_, _, rfl, fun c o h1 _ e => up c o (hs₁.extBut _ _ h1 e)⟩
  case back =>
    intro n' s₀ c fl s₃ hfl hR
    refine seg_leaf (.ok fl) ?_
    rcases hfl with rfl | rfl
    · exact seg_end (.ok (.ret .none)) hR
    · exact seg_end (.ok (.ret .none)) hR
end
end Mine
end
section
open PySem PySem.W PyProof.Rows PySem.Calls
set_option maxRecDepth 100000
namespace Mine
theorem assign_as {M : Model} {A : Around} {E : Value → Shared → Prop} {s : Shared} {env : Env} {x : Str} {pos' pos : Pos} {value : Expr} {v : Value} {h₀ : Heap} {m : Str → Option Value} {FL : Addr} (hFL : env.locals = FL) (F : Fr h₀ FL s.heap m) (hs : swapsWith value (some (.Name x pos')) pos.line env = pure false)
    (he : ∀ Q : Value → Shared → Prop, Q v s → wpAny M A (eval value env) Q E s) (hl : env.kindOf x = some .local) (hp : (env.scope.kind == .class || (env.scope.kind == .module && env.locals != env.globals)) = false) :
    wpAny M A (exec (.Assign [.Name x pos'] value pos) env) (fun fl s' => fl = .next ∧ ∃ h tk, s' = { s with heap := h, toks := tk } ∧ Heap.SameBut FL s.heap h ∧ Fr h₀ FL h (fun y => if y = x then some v else m y)) E s := by
  subst hFL
  rw [exec_Assign_Name (hs := hs)]
  refine wpAny_bind (wpAny_standAt (wpAny_bind (he _ ?_)))
  exact wpAny_bind (wpAny_standAt (wpAny_bind (wpAny_bindName (wpAny_storeName_local hl F.ns (fun h' hn hs => wpAny_pure ⟨rfl, h', _, rfl, hs, F.set hn hs⟩) hp))))
/-- contract of the call of the generator function -/
noncomputable abbrev ConG (w : World) (mean : ExcName → Option Value) (mg mb : Str → Option Value) (f Rw : Addr) (vs : List Value) (ns : List Int) : Prop :=
  ∀ (A : Around) (h₀ : Heap) (L : Addr) (m : Str → Option Value) (s : Shared) (Q E : Value → Shared → Prop),
    Fr h₀ L s.heap m → (KK w).In h₀ → TopM mean mg mb h₀ → A.depth < recursionLimit →
    s.heap.IsList Rw vs.toArray → h₀.get? Rw = none → IntsAre vs ns → (GS.at none ns).step ≠ .err →
    (∀ h' tk' gs, gs.bare = true → (∀ b o, s.heap.get? b = some o → h'.get? b = some o) → (∀ (A : Around), A.handled = none → ∀ n, GLive prog w A h₀ (s.heap.objs.size + 1) s.gens.size s.heap.objs.size Rw n (.at none ns) { s with heap := h', toks := tk', gens := s.gens.push gs }) →
      Q (.ref (s.heap.objs.size + 1)) { s with heap := h', toks := tk', gens := s.gens.push gs }) →
    wpAny (model prog w) A (call (.ref f) [.ref Rw]) Q E s
set_option maxHeartbeats 4000000 in
theorem gen_c (w mean mg mb) (Rw : Addr) (vs : List Value) (ns : List Int) : ConG w mean mg mb 21 Rw vs ns := by
  unfold ConG KK Mine.prog TopM; k_with_none; w_top off; k_fill
  intro A h₀ L m s Q E F X T hdp hl hRw hints h0 hret
  refine wpAny_call ?_
  (refine' gen_enter F X T ?k6 ?k7 hdp ?k9 ?kB ?_ ?c2 ?c3 ?c4 ?c5; (case k6 => k_is); (case k7 => k_is); (case k9 => exact BindsTo.of_eq rfl); (case c5 => decide); (case kB => exact locs rfl); (case c2 => exact rfl); (case c3 => exact rfl); (case c4 => exact rfl))
  intro h₁ tk F₁ up hg
  refine hret h₁ tk _ rfl up fun A hA n => ?_
  refine' gen_live_fresh ?hL hA ?sc ?ii ?P ?n1 ?n2 ?P0 ?PI hints h0 F₁ ?n3 (hl.at fun o e => up _ o e) hRw ?r1 hg (Nat.succ_ne_self _) ?hgs n
  case hgs => exact Array.getElem?_push_size ..
  case hL => rfl
  case sc => rfl
  case ii => rfl
  case n3 => rfl
  case r1 => obtain ⟨_, e, _⟩ := hl; exact Nat.ne_of_lt (Heap.lt_size e)
  clear hret F₁ hg up hl
  case PI =>
    intro A s m v F hv
    exact ld F hv ⟨rfl, _, rfl⟩
  case P =>
    refine' ⟨?t1, ?t2, ?t4, ?y1, ?y2, ?s3, ?s5, ?tg⟩
    case y1 => intro A s m v F hv; exact ld F hv ⟨rfl, _, rfl⟩
    case y2 => intro A s m v F hv; exact ld F hv ⟨rfl, _, rfl⟩
    case t1 =>
      intro A s m x t hA F hm
      k_steps
      refine ld F hm ?_
      k_steps
    case t2 =>
      intro A s m x t hA F hm
      k_steps
      refine ld F hm ?_
      k_steps
    case t4 =>
      intro A s
      k_steps
    case s3 =>
      intro A s m x t hA F hm
      k_steps
      refine ld F hm ?_
      k_steps
    case s5 =>
      intro A s m v F hv
      exact assign_as rfl F (by rfl) (fun Q hq => ld F hv hq) (by rfl) (by rfl)
    case tg =>
      intro A s m v F
      refine wpAny_assign_Name (wpAny_storeName_local (by rfl) F.ns (fun h' hn hs => ⟨h', _, rfl, hs, F.set hn hs⟩))
  case P0 => 
    intro A s m F
    exact assign_as rfl F (by rfl) (fun Q hq => wpAny_of_eq (a := Value.none) (by rfl) hq) (by rfl) (by rfl)
  case n1 => decide
  case n2 => decide
end Mine
end
section
open PySem PySem.W PyProof.Rows PySem.Calls PyProof.Rows.LCg
set_option maxRecDepth 100000
namespace Mine
noncomputable abbrev rgH1 (h : Heap) (N : Int) : Heap := h.push { cls := .type "range_iterator", data := .fields #[rawInt 0, rawInt (Builtin.Range.rangeSize 0 N 1), rawInt 1] }
noncomputable abbrev rgH2 (h : Heap) (N : Int) (a : Addr) : Heap := (rgH1 h N).push { cls := .type "tuple", data := .seq #[.ref h.objs.size, .ref a] }
noncomputable abbrev rgH3 (h : Heap) (N : Int) (a : Addr) : Heap := (rgH2 h N a).push { cls := .type "tuple", data := .seq #[.none, .none] }
noncomputable abbrev rgH4 (h : Heap) (N : Int) (a : Addr) : Heap := (rgH3 h N a).push { cls := .type "zip", data := .fields #[.none, .bool false, .bool false, .ref (rgH1 h N).objs.size, .ref (rgH2 h N a).objs.size] }
theorem meets_zip_rg (r a : Addr) (g : Nat) (N : Int) (t u v : Tok) :
    Meets (Builtin.«zip.__new__» ⟨[.type "zip", .ref r, .ref a], []⟩) (fun _ R s => IsRange s.heap r 0 N 1 t u v ∧ Builtin.Range.small 0 N 1 = true ∧ s.heap.IsGen a g ∧
      R (.ok (.ret (.ref (rgH3 s.heap N a).objs.size))) { s with heap := rgH4 s.heap N a }) :=
  .of_wp fun prog w A R s h => by
    obtain ⟨hp, gg, d, tk, os⟩ := s; obtain ⟨hr, hsm, hg, h⟩ := h
    have hsub := sub_zip
    have hL1 : IsRange (Shared.heap ⟨hp, gg, d, tk, os⟩) r 0 N 1 t u v := hr
    have hL2 : (Shared.heap ⟨hp.push { cls := .type "range_iterator", data := .fields #[rawInt 0, rawInt (Builtin.Range.rangeSize 0 N 1), rawInt 1] }, gg, d, tk, os⟩).IsGen a g := Heap.IsGen.push hg _
    wp_walk using wpAny_pyIter_range hL1 hsm, wpAny_pyIter_gen hL2
    exact ⟨_, rfl, h⟩
section
variable {prog : Program} {w : World} {A : Around} {E : Value → Shared → Prop} {s : Shared}
theorem call_zip_rg {r a : Addr} {g : Nat} {N : Int} {t u v : Tok} {Q : Value → Shared → Prop} (hr : IsRange s.heap r 0 N 1 t u v) (hsm : Builtin.Range.small 0 N 1 = true) (hsz : Builtin.Range.rangeSize 0 N 1 = N) (hg : s.heap.IsGen a g)
    (h : ∀ h', IsZip h' (s.heap.objs.size + 3) (s.heap.objs.size + 1) (s.heap.objs.size + 2) .none → IsPair h' (s.heap.objs.size + 1) (.ref s.heap.objs.size) (.ref a) → IsPair h' (s.heap.objs.size + 2) .none .none →
      IsRangeIter h' s.heap.objs.size 0 N 1 → h'.objs.size = s.heap.objs.size + 4 → (∀ c o, s.heap.get? c = some o → h'.get? c = some o) → Q (.ref (s.heap.objs.size + 3)) { s with heap := h' }) :
    wpAny (model prog w) A (call (.type "zip") [.ref r, .ref a]) Q E s := by
  refine callType_new F.called_zip (by decide) (F.typeCall_zip_2 _ _) (F.newCall_zip_2 _ _) (fun obj => F.args_object_init_3 obj _ _) F.entry_zip_new
    (meets_zip_rg r a g N t u v) ⟨hr, hsm, hg, ?_⟩
  have z1 : (rgH1 s.heap N).objs.size = s.heap.objs.size + 1 := Heap.size_push ..
  have z2 : (rgH2 s.heap N a).objs.size = s.heap.objs.size + 2 := by rw [Heap.size_push, z1]
  have z3 : (rgH3 s.heap N a).objs.size = s.heap.objs.size + 3 := by rw [Heap.size_push, z2]
  have z4 : (rgH4 s.heap N a).objs.size = s.heap.objs.size + 4 := by rw [Heap.size_push, z3]
  have g4 : (rgH4 s.heap N a).get? (rgH3 s.heap N a).objs.size = some _ := Heap.get?_push_size _ rfl
  have g3 : (rgH4 s.heap N a).get? (rgH2 s.heap N a).objs.size = some _ := Heap.get?_push_of_some _ (Heap.get?_push_size _ rfl)
  have g2 : (rgH4 s.heap N a).get? (rgH1 s.heap N).objs.size = some _ := Heap.get?_push_of_some _ (Heap.get?_push_of_some _ (Heap.get?_push_size _ rfl))
  have g1 : (rgH4 s.heap N a).get? s.heap.objs.size = some _ := Heap.get?_push_of_some _ (Heap.get?_push_of_some _ (Heap.get?_push_of_some _ (Heap.get?_push_size _ rfl)))
  show _ ∧ _
  rw [z1, z2, z3] at g4
  rw [z2] at g3
  rw [z1] at g2
  rw [hsz] at g1
  rw [z3]
  exact ⟨⟨_, g4, rfl⟩, h _ g4 g2 g3 g1 z4 fun c o x => Heap.get?_push_of_some _ (Heap.get?_push_of_some _ (Heap.get?_push_of_some _ (Heap.get?_push_of_some _ x)))⟩
end
end Mine
end
section
open PySem PySem.W PyProof.Rows PySem.Calls PyProof.Rows.LCg
set_option maxRecDepth 100000
namespace Mine
/-- what a state of the generator hands out in so many pulls -/
noncomputable def GS.vals : GS → Nat → List Int
  | _, 0 => []
  | g, n + 1 => match g.step with
    | .item x g' => x :: g'.vals n
    | _ => []
theorem GS.vals_item {g g' : GS} {x : Int} {n : Nat} (h : g.step = .item x g') : g.vals (n + 1) = x :: g'.vals n := by rw [GS.vals, h]
theorem GS.vals_stop {g : GS} (h : g.step = .stop) : ∀ n, g.vals n = []
  | 0 => rfl
  | n + 1 => by rw [GS.vals, h]
theorem ns_not_li {h : Heap} {C : Addr} {m : Str → Option Value} (hn : h.Ns C m) {o : Obj} (e : h.get? C = some o) : ¬ LI o := by
  obtain ⟨o', es, ep, e', hd, _⟩ := hn
  rw [e'] at e
  cases e
  rintro ⟨_, vs, hv⟩
  rw [hd] at hv
  cases hv
theorem li_cls {o : Obj} {n : String} (h : o.cls = .type n) (hn : n ≠ "list_iterator") : ¬ LI o := fun z => by
  have := z.1
  rw [h] at this
  simp at this
  exact hn this
/-- what a pull of the zip leaves as it was -/
noncomputable def ZK (FL z TO i1 : Addr) (a b : Heap) : Prop := ∀ c o, c ≠ z → c ≠ TO → c ≠ i1 → c ≠ FL → ¬ LI o → a.get? c = some o → b.get? c = some o
theorem ints_snoc {vs : List Value} {ns : List Int} {x : Int} {t : Tok} (h : IntsAre vs ns) : IntsAre (vs ++ [.int x t]) (ns ++ [x]) := h.append (.cons _ _ .nil)
/-- seven addresses in their order: any two of them -/
structure Ord7 (L FL a i1 TI TO z : Nat) : Prop where
  p1 : L < FL
  p2 : L < a
  p3 : L < i1
  p4 : L < TI
  p5 : L < TO
  p6 : L < z
  p7 : FL < a
  p8 : FL < i1
  p9 : FL < TI
  p10 : FL < TO
  p11 : FL < z
  p12 : a < i1
  p13 : a < TI
  p14 : a < TO
  p15 : a < z
  p16 : i1 < TI
  p17 : i1 < TO
  p18 : i1 < z
  p19 : TI < TO
  p20 : TI < z
  p21 : TO < z
theorem Ord7.of {L FL a i1 TI TO z : Nat} (h1 : L < FL) (h2 : FL < a) (h3 : a < i1) (h4 : i1 < TI) (h5 : TI < TO) (h6 : TO < z) : Ord7 L FL a i1 TI TO z :=
  have t {x y z : Nat} (h : x < y) (k : y < z) : x < z := Nat.lt_trans h k
  have a3 := t h2 h3
  have a4 := t a3 h4
  have a5 := t a4 h5
  have b4 := t h3 h4
  have b5 := t b4 h5
  have c5 := t h4 h5
  ⟨h1, t h1 h2, t h1 a3, t h1 a4, t h1 a5, t h1 (t a5 h6), h2, a3, a4, a5, t a5 h6, h3, b4, b5, t b5 h6, h4, c5, t c5 h6, h5, t h5 h6, h6⟩
/-- and of one behind them all -/
structure Ord7b (L FL a i1 TI TO z D : Nat) : Prop where
  p1 : L < D
  p2 : FL < D
  p3 : a < D
  p4 : i1 < D
  p5 : TI < D
  p6 : TO < D
  p7 : z < D
theorem Ord7.behind {L FL a i1 TI TO z D : Nat} (o : Ord7 L FL a i1 TI TO z) (h : z < D) : Ord7b L FL a i1 TI TO z D := by
  have t {x : Nat} (k : x < z) : x < D := Nat.lt_trans k h
  exact ⟨t o.p6, t o.p11, t o.p15, t o.p18, t o.p20, t o.p21, h⟩
section
variable {prog : Program} {w : World} {A : Around} {E : Value → Shared → Prop} {s : Shared} {h₀ : Heap} {L : Addr} {m : Str → Option Value} {env : Env}
theorem zip_src {k b : Str} {pk pb pe tp : Pos} {kk : Nat} {scope : Scope} {cl : List (Str × Addr)} {news : List (Addr × Obj)} {z TI TO i1 a FL Rw : Addr} {g N : Nat} {cur : GS}
    (hh : A.handled = none) (hroom : A.depth < recursionLimit) (hlim : h₀.NoLimit) (hkind : scope.kind = .function) (hk : scope.names.lookup k = some .local) (hb : scope.names.lookup b = some .local) (hdb : (b == ("__debug__" : Str)) = false) (hNs : N ≤ sizeLine)
    (F : Fr h₀ L s.heap m) (N9 : News h₀ L s.heap news) (hnl : ∀ p ∈ news, ¬ LI p.2) (hnF : ∀ p ∈ news, @LT.lt Nat _ p.1 FL) (hLF : @LT.lt Nat _ L FL) (hRw : ∃ o, (Rw, o) ∈ news)
    (o1 : @LT.lt Nat _ FL a) (o2 : @LT.lt Nat _ a i1) (o3 : @LT.lt Nat _ i1 TI) (o4 : @LT.lt Nat _ TI TO) (o5 : @LT.lt Nat _ TO z)
    (hz : IsZip s.heap z TI TO .none) (hTI : IsPair s.heap TI (.ref i1) (.ref a)) (hTO : IsPair s.heap TO .none .none) (hi1 : IsRangeIter s.heap i1 0 N 1)
    (G : GLive prog w A.in1 h₀ a g FL Rw N cur s) :
    wpAny (model prog w) A (pyIter (.ref z)) (GSrc prog w A h₀ L m env (.Tuple [.Name k pk, .Name b pb] kk tp) (.Name b pe) scope cl news
      (fun ys s₁ => IntsAre ys (cur.vals N) ∧ ∃ h tk gens', s₁ = { s with heap := h, toks := tk, gens := gens' } ∧ GenOnlyQ g s.gens gens')) E s := by
  refine wpAny_pyIter_zip hz ?_
  have hzlt : @LT.lt Nat _ z s.heap.objs.size := Heap.lt_size hz
  have ord : Ord7 L FL a i1 TI TO z := .of hLF o1 o2 o3 o4 o5
  obtain ⟨_, q2, q3, q4, q5, q6, _, q8, q9, q10, q11, _, q13, q14, q15, _, q17, q18, _, q20, _⟩ := id ord
  have h0F : ∀ {c o}, h₀.get? c = some o → @LT.lt Nat _ c FL := fun e => Nat.lt_trans (Nat.lt_of_lt_of_le (Heap.lt_size e) F.above) hLF
  obtain ⟨oR, hoR⟩ := hRw
  have hRF : @LT.lt Nat _ Rw FL := hnF _ hoR
  have zli : ∀ {h : Heap} {f0 : Value} {o}, IsZip h z TI TO f0 → h.get? z = some o → ¬ LI o := fun hz e => by rw [hz] at e; cases e; exact li_cls rfl (by decide)
  have pli : ∀ {h : Heap} {T : Addr} {x y : Value} {o}, IsPair h T x y → h.get? T = some o → ¬ LI o := fun hz e => by rw [hz] at e; cases e; exact li_cls rfl (by decide)
  have rli : ∀ {h : Heap} {x l : Int} {o}, IsRangeIter h i1 x l 1 → h.get? i1 = some o → ¬ LI o := fun hz e => by rw [hz] at e; cases e; exact li_cls rfl (by decide)
  refine ⟨fun i ys s' => ∃ cur' ns' a' b', IntsAre ys ns' ∧ ns'.length = i ∧ cur.vals N = ns' ++ cur'.vals (N - i) ∧ IsZip s'.heap z TI TO .none ∧ IsPair s'.heap TI (.ref i1) (.ref a) ∧ IsPair s'.heap TO a' b' ∧
    IsRangeIter s'.heap i1 i (N - i) 1 ∧ GLive prog w A.in1 h₀ a g FL Rw (N - i) cur' s' ∧ ∃ h tk gens', s' = { s with heap := h, toks := tk, gens := gens' } ∧ GenOnlyQ g s.gens gens',
    N, hNs, F, N9, ?self, ?start, ?turn⟩
  case self =>
    intro h tk Q E' up hq
    exact wpAny_pyIter_zip (up _ _ hz) hq
  case start =>
    intro h tk up
    exact ⟨cur, [], _, _, .nil, rfl, by simp, up _ _ hz, up _ _ hTI, up _ _ hTO, by simpa using up _ _ hi1, G.keep (fun c o _ e => up c o e) (G.gen.keeps up) rfl, h, tk, _, rfl, .inl rfl⟩
  case turn =>
    intro D C i ys s' m' Er hDle hCle hDC hDL hCL hD₀ hC₀ hi hyl hJ F' hn' N'
    obtain ⟨cur', ns', a', b', hys, hnl', hvals, hz', hTI', hTO', hi1', G', h9, tk9, gens9, rfl, gq9⟩ := hJ
    have hDz : @LT.lt Nat _ z D := Nat.lt_of_lt_of_le hzlt hDle
    have hCz : @LT.lt Nat _ z C := Nat.lt_of_lt_of_le hzlt hCle
    obtain ⟨d1, d2, d3, d4, d5, d6, _⟩ := ord.behind hDz
    obtain ⟨e1, e2, e3, e4, e5, e6, _⟩ := ord.behind hCz
    have N'' : News h₀ L h9 news := fun p hp => N' p (List.mem_cons_of_mem _ hp)
    have hDobj : h9.get? D = some (lst ys) := (N' _ List.mem_cons_self).1
    -- the end of a turn that brings nothing
    have fin : ∀ h' tk' gens', ZK FL z TO i1 h9 h' → (∀ c o, h₀.get? c = some o → h'.get? c = some o) → cur'.vals (N - i) = [] → GenOnlyQ g s.gens gens' →
        GTurn prog w A h₀ L m (.Tuple [.Name k pk, .Name b pb] kk tp) (.Name b pe) (.ref z) (compEnvC scope cl C env) news (fun i ys s' => ∃ cur' ns' a' b', IntsAre ys ns' ∧ ns'.length = i ∧ cur.vals N = ns' ++ cur'.vals (N - i) ∧ IsZip s'.heap z TI TO .none ∧ IsPair s'.heap TI (.ref i1) (.ref a) ∧ IsPair s'.heap TO a' b' ∧
    IsRangeIter s'.heap i1 i (N - i) 1 ∧ GLive prog w A.in1 h₀ a g FL Rw (N - i) cur' s' ∧ ∃ h tk gens', s' = { s with heap := h, toks := tk, gens := gens' } ∧ GenOnlyQ g s.gens gens')
          (fun ys s₁ => IntsAre ys (cur.vals N) ∧ ∃ h tk gens', s₁ = { s with heap := h, toks := tk, gens := gens' } ∧ GenOnlyQ g s.gens gens') N D C i ys Er none { s with heap := h', toks := tk', gens := gens' } := by
      intro h' tk' gens' kz k0 hv gq
      refine ⟨m', ⟨F'.ns.at' fun o e => kz _ o (show @Ne Nat _ _ by (first | exact Nat.ne_of_lt (by assumption) | exact Nat.ne_of_gt (by assumption) | exact Nat.ne_of_lt (Nat.lt_trans this (by assumption)) | exact Nat.ne_of_gt (Nat.lt_trans this (by assumption)) | omega +splitDisjunctions)) (show @Ne Nat _ _ by (first | exact Nat.ne_of_lt (by assumption) | exact Nat.ne_of_gt (by assumption) | exact Nat.ne_of_lt (Nat.lt_trans this (by assumption)) | exact Nat.ne_of_gt (Nat.lt_trans this (by assumption)) | omega +splitDisjunctions)) (show @Ne Nat _ _ by (first | exact Nat.ne_of_lt (by assumption) | exact Nat.ne_of_gt (by assumption) | exact Nat.ne_of_lt (Nat.lt_trans this (by assumption)) | exact Nat.ne_of_gt (Nat.lt_trans this (by assumption)) | omega +splitDisjunctions)) (show @Ne Nat _ _ by (first | exact Nat.ne_of_lt (by assumption) | exact Nat.ne_of_gt (by assumption) | exact Nat.ne_of_lt (Nat.lt_trans this (by assumption)) | exact Nat.ne_of_gt (Nat.lt_trans this (by assumption)) | omega +splitDisjunctions)) (ns_not_li F'.ns e) e, k0, F'.above⟩, hn'.at' fun o e => kz _ o (show @Ne Nat _ _ by (first | exact Nat.ne_of_lt (by assumption) | exact Nat.ne_of_gt (by assumption) | exact Nat.ne_of_lt (Nat.lt_trans this (by assumption)) | exact Nat.ne_of_gt (Nat.lt_trans this (by assumption)) | omega +splitDisjunctions)) (show @Ne Nat _ _ by (first | exact Nat.ne_of_lt (by assumption) | exact Nat.ne_of_gt (by assumption) | exact Nat.ne_of_lt (Nat.lt_trans this (by assumption)) | exact Nat.ne_of_gt (Nat.lt_trans this (by assumption)) | omega +splitDisjunctions)) (show @Ne Nat _ _ by (first | exact Nat.ne_of_lt (by assumption) | exact Nat.ne_of_gt (by assumption) | exact Nat.ne_of_lt (Nat.lt_trans this (by assumption)) | exact Nat.ne_of_gt (Nat.lt_trans this (by assumption)) | omega +splitDisjunctions)) (show @Ne Nat _ _ by (first | exact Nat.ne_of_lt (by assumption) | exact Nat.ne_of_gt (by assumption) | exact Nat.ne_of_lt (Nat.lt_trans this (by assumption)) | exact Nat.ne_of_gt (Nat.lt_trans this (by assumption)) | omega +splitDisjunctions)) (ns_not_li hn' e) e, fun p hp => ?_, ?_, h', tk', gens', rfl, gq⟩
      · refine ⟨?_, (N' p hp).2⟩
        rcases List.mem_cons.mp hp with rfl | hp
        · exact kz D _ (show @Ne Nat _ _ by (first | exact Nat.ne_of_lt (by assumption) | exact Nat.ne_of_gt (by assumption) | exact Nat.ne_of_lt (Nat.lt_trans this (by assumption)) | exact Nat.ne_of_gt (Nat.lt_trans this (by assumption)) | omega +splitDisjunctions)) (show @Ne Nat _ _ by (first | exact Nat.ne_of_lt (by assumption) | exact Nat.ne_of_gt (by assumption) | exact Nat.ne_of_lt (Nat.lt_trans this (by assumption)) | exact Nat.ne_of_gt (Nat.lt_trans this (by assumption)) | omega +splitDisjunctions)) (show @Ne Nat _ _ by (first | exact Nat.ne_of_lt (by assumption) | exact Nat.ne_of_gt (by assumption) | exact Nat.ne_of_lt (Nat.lt_trans this (by assumption)) | exact Nat.ne_of_gt (Nat.lt_trans this (by assumption)) | omega +splitDisjunctions)) (show @Ne Nat _ _ by (first | exact Nat.ne_of_lt (by assumption) | exact Nat.ne_of_gt (by assumption) | exact Nat.ne_of_lt (Nat.lt_trans this (by assumption)) | exact Nat.ne_of_gt (Nat.lt_trans this (by assumption)) | omega +splitDisjunctions)) (li_cls rfl (by decide)) hDobj
        · have := hnF p hp
          exact kz _ _ (show @Ne Nat _ _ by (first | exact Nat.ne_of_lt (by assumption) | exact Nat.ne_of_gt (by assumption) | exact Nat.ne_of_lt (Nat.lt_trans this (by assumption)) | exact Nat.ne_of_gt (Nat.lt_trans this (by assumption)) | omega +splitDisjunctions)) (show @Ne Nat _ _ by (first | exact Nat.ne_of_lt (by assumption) | exact Nat.ne_of_gt (by assumption) | exact Nat.ne_of_lt (Nat.lt_trans this (by assumption)) | exact Nat.ne_of_gt (Nat.lt_trans this (by assumption)) | omega +splitDisjunctions)) (show @Ne Nat _ _ by (first | exact Nat.ne_of_lt (by assumption) | exact Nat.ne_of_gt (by assumption) | exact Nat.ne_of_lt (Nat.lt_trans this (by assumption)) | exact Nat.ne_of_gt (Nat.lt_trans this (by assumption)) | omega +splitDisjunctions)) (show @Ne Nat _ _ by (first | exact Nat.ne_of_lt (by assumption) | exact Nat.ne_of_gt (by assumption) | exact Nat.ne_of_lt (Nat.lt_trans this (by assumption)) | exact Nat.ne_of_gt (Nat.lt_trans this (by assumption)) | omega +splitDisjunctions)) (hnl p hp) (N'' p hp).1
      · rw [hvals, hv, List.append_nil]; exact hys
    refine zip_pyNext (show @Ne Nat _ _ by (first | exact Nat.ne_of_lt (by assumption) | exact Nat.ne_of_gt (by assumption) | exact Nat.ne_of_lt (Nat.lt_trans this (by assumption)) | exact Nat.ne_of_gt (Nat.lt_trans this (by assumption)) | omega +splitDisjunctions)) (show @Ne Nat _ _ by (first | exact Nat.ne_of_lt (by assumption) | exact Nat.ne_of_gt (by assumption) | exact Nat.ne_of_lt (Nat.lt_trans this (by assumption)) | exact Nat.ne_of_gt (Nat.lt_trans this (by assumption)) | omega +splitDisjunctions)) hz' hTI' hTO' fun h₁ hz₁ hs₁ => ?_
    have hi₁ : IsRangeIter h₁ i1 i (N - i) 1 := hs₁.extBut _ _ (show @Ne Nat _ _ by (first | exact Nat.ne_of_lt (by assumption) | exact Nat.ne_of_gt (by assumption) | exact Nat.ne_of_lt (Nat.lt_trans this (by assumption)) | exact Nat.ne_of_gt (Nat.lt_trans this (by assumption)) | omega +splitDisjunctions)) hi1'
    by_cases hlt : i < N
    · refine range_nextOf (A := A.in1) hi₁ (by (first | exact Nat.ne_of_lt (by assumption) | exact Nat.ne_of_gt (by assumption) | exact Nat.ne_of_lt (Nat.lt_trans this (by assumption)) | exact Nat.ne_of_gt (Nat.lt_trans this (by assumption)) | omega +splitDisjunctions)) fun h₂ hr₂ hs₂ => ?_
      refine ⟨hs₂.extBut _ _ (show @Ne Nat _ _ by (first | exact Nat.ne_of_lt (by assumption) | exact Nat.ne_of_gt (by assumption) | exact Nat.ne_of_lt (Nat.lt_trans this (by assumption)) | exact Nat.ne_of_gt (Nat.lt_trans this (by assumption)) | omega +splitDisjunctions)) (hs₁.extBut _ _ (show @Ne Nat _ _ by (first | exact Nat.ne_of_lt (by assumption) | exact Nat.ne_of_gt (by assumption) | exact Nat.ne_of_lt (Nat.lt_trans this (by assumption)) | exact Nat.ne_of_gt (Nat.lt_trans this (by assumption)) | omega +splitDisjunctions)) hTO'), fun h₃ hTO₃ hs₃ => ?_⟩
      have k₃ : ∀ c o, c ≠ z → c ≠ TO → c ≠ i1 → h9.get? c = some o → h₃.get? c = some o := fun c o c1 c2 c3 e => hs₃.extBut _ _ c2 (hs₂.extBut _ _ c3 (hs₁.extBut _ _ c1 e))
      have hz₃ : IsZip h₃ z TI TO .ellipsis := hs₃.extBut _ _ (show @Ne Nat _ _ by (first | exact Nat.ne_of_lt (by assumption) | exact Nat.ne_of_gt (by assumption) | exact Nat.ne_of_lt (Nat.lt_trans this (by assumption)) | exact Nat.ne_of_gt (Nat.lt_trans this (by assumption)) | omega +splitDisjunctions)) (hs₂.extBut _ _ (show @Ne Nat _ _ by (first | exact Nat.ne_of_lt (by assumption) | exact Nat.ne_of_gt (by assumption) | exact Nat.ne_of_lt (Nat.lt_trans this (by assumption)) | exact Nat.ne_of_gt (Nat.lt_trans this (by assumption)) | omega +splitDisjunctions)) hz₁)
      have G₃ : GLive prog w A.in1 h₀ a g FL Rw (N - i) cur' { s with heap := h₃, toks := tk9 + 1, gens := gens9 } := by
        refine G'.keep (fun c o h e => ?_) ?_ rfl
        · have hcl : (c ≠ z ∧ c ≠ TO ∧ c ≠ i1) := by
            rcases h with rfl | rfl | h | h
            · exact ⟨show @Ne Nat _ _ by (first | exact Nat.ne_of_lt (by assumption) | exact Nat.ne_of_gt (by assumption) | exact Nat.ne_of_lt (Nat.lt_trans this (by assumption)) | exact Nat.ne_of_gt (Nat.lt_trans this (by assumption)) | omega +splitDisjunctions), show @Ne Nat _ _ by (first | exact Nat.ne_of_lt (by assumption) | exact Nat.ne_of_gt (by assumption) | exact Nat.ne_of_lt (Nat.lt_trans this (by assumption)) | exact Nat.ne_of_gt (Nat.lt_trans this (by assumption)) | omega +splitDisjunctions), show @Ne Nat _ _ by (first | exact Nat.ne_of_lt (by assumption) | exact Nat.ne_of_gt (by assumption) | exact Nat.ne_of_lt (Nat.lt_trans this (by assumption)) | exact Nat.ne_of_gt (Nat.lt_trans this (by assumption)) | omega +splitDisjunctions)⟩
            · exact ⟨show @Ne Nat _ _ by (first | exact Nat.ne_of_lt (by assumption) | exact Nat.ne_of_gt (by assumption) | exact Nat.ne_of_lt (Nat.lt_trans this (by assumption)) | exact Nat.ne_of_gt (Nat.lt_trans this (by assumption)) | omega +splitDisjunctions), show @Ne Nat _ _ by (first | exact Nat.ne_of_lt (by assumption) | exact Nat.ne_of_gt (by assumption) | exact Nat.ne_of_lt (Nat.lt_trans this (by assumption)) | exact Nat.ne_of_gt (Nat.lt_trans this (by assumption)) | omega +splitDisjunctions), show @Ne Nat _ _ by (first | exact Nat.ne_of_lt (by assumption) | exact Nat.ne_of_gt (by assumption) | exact Nat.ne_of_lt (Nat.lt_trans this (by assumption)) | exact Nat.ne_of_gt (Nat.lt_trans this (by assumption)) | omega +splitDisjunctions)⟩
            · exact ⟨fun q => zli hz' (q ▸ e) h, fun q => pli hTO' (q ▸ e) h, fun q => rli hi1' (q ▸ e) h⟩
            · have := h0F h
              exact ⟨show @Ne Nat _ _ by (first | exact Nat.ne_of_lt (by assumption) | exact Nat.ne_of_gt (by assumption) | exact Nat.ne_of_lt (Nat.lt_trans this (by assumption)) | exact Nat.ne_of_gt (Nat.lt_trans this (by assumption)) | omega +splitDisjunctions), show @Ne Nat _ _ by (first | exact Nat.ne_of_lt (by assumption) | exact Nat.ne_of_gt (by assumption) | exact Nat.ne_of_lt (Nat.lt_trans this (by assumption)) | exact Nat.ne_of_gt (Nat.lt_trans this (by assumption)) | omega +splitDisjunctions), show @Ne Nat _ _ by (first | exact Nat.ne_of_lt (by assumption) | exact Nat.ne_of_gt (by assumption) | exact Nat.ne_of_lt (Nat.lt_trans this (by assumption)) | exact Nat.ne_of_gt (Nat.lt_trans this (by assumption)) | omega +splitDisjunctions)⟩
          exact k₃ c o hcl.1 hcl.2.1 hcl.2.2 e
        · obtain ⟨o, nm, qn, ho, r⟩ := G'.gen
          exact ⟨o, nm, qn, k₃ _ o (show @Ne Nat _ _ by (first | exact Nat.ne_of_lt (by assumption) | exact Nat.ne_of_gt (by assumption) | exact Nat.ne_of_lt (Nat.lt_trans this (by assumption)) | exact Nat.ne_of_gt (Nat.lt_trans this (by assumption)) | omega +splitDisjunctions)) (show @Ne Nat _ _ by (first | exact Nat.ne_of_lt (by assumption) | exact Nat.ne_of_gt (by assumption) | exact Nat.ne_of_lt (Nat.lt_trans this (by assumption)) | exact Nat.ne_of_gt (Nat.lt_trans this (by assumption)) | omega +splitDisjunctions)) (show @Ne Nat _ _ by (first | exact Nat.ne_of_lt (by assumption) | exact Nat.ne_of_gt (by assumption) | exact Nat.ne_of_lt (Nat.lt_trans this (by assumption)) | exact Nat.ne_of_gt (Nat.lt_trans this (by assumption)) | omega +splitDisjunctions)) ho, r⟩
      refine gen_pull (A := A.in1) (s := { s with heap := h₃, toks := tk9 + 1, gens := gens9 }) hh hroom hlim (show @Ne Nat _ _ by (first | exact Nat.ne_of_lt (by assumption) | exact Nat.ne_of_gt (by assumption) | exact Nat.ne_of_lt (Nat.lt_trans this (by assumption)) | exact Nat.ne_of_gt (Nat.lt_trans this (by assumption)) | omega +splitDisjunctions)) G₃ (fun x g' t h₄ tk₄ gens₄ hstep G₄ k₄ gq₄ => ?_) (fun e h₄ tk₄ gens₄ hstep hF₄ he k₄ gq₄ => ?_)
      · have hz₄ : IsZip h₄ z TI TO .ellipsis := k₄ _ _ (show @Ne Nat _ _ by (first | exact Nat.ne_of_lt (by assumption) | exact Nat.ne_of_gt (by assumption) | exact Nat.ne_of_lt (Nat.lt_trans this (by assumption)) | exact Nat.ne_of_gt (Nat.lt_trans this (by assumption)) | omega +splitDisjunctions)) (li_cls rfl (by decide)) hz₃
        have hTO₄ : IsPair h₄ TO (.int i tk9) b' := k₄ _ _ (show @Ne Nat _ _ by (first | exact Nat.ne_of_lt (by assumption) | exact Nat.ne_of_gt (by assumption) | exact Nat.ne_of_lt (Nat.lt_trans this (by assumption)) | exact Nat.ne_of_gt (Nat.lt_trans this (by assumption)) | omega +splitDisjunctions)) (li_cls rfl (by decide)) hTO₃
        refine ⟨hz₄, hTO₄, fun h₅ hz₅ hT₅ hTO₅ k₅ => ⟨hlt, ?_⟩⟩
        have hT₅' : IsPair h₅ h₄.objs.size (.int i tk9) (.int x t) := hT₅
        have k0₅ : ∀ c o, h₀.get? c = some o → h₅.get? c = some o := fun c o e => by
          obtain ⟨mF, FF⟩ := G₄.fr
          have := h0F e
          exact k₅ c o (show @Ne Nat _ _ by (first | exact Nat.ne_of_lt (by assumption) | exact Nat.ne_of_gt (by assumption) | exact Nat.ne_of_lt (Nat.lt_trans this (by assumption)) | exact Nat.ne_of_gt (Nat.lt_trans this (by assumption)) | omega +splitDisjunctions)) (show @Ne Nat _ _ by (first | exact Nat.ne_of_lt (by assumption) | exact Nat.ne_of_gt (by assumption) | exact Nat.ne_of_lt (Nat.lt_trans this (by assumption)) | exact Nat.ne_of_gt (Nat.lt_trans this (by assumption)) | omega +splitDisjunctions)) (FF.keep c o e)
        refine wpAny_letOwnedTupleGo_zip (s := { s with heap := h₅, toks := tk₄, gens := gens₄ }) hz₅ fun h₆ hz₆ hs₆ => ?_
        have kz₆ : ZK FL z TO i1 h9 h₆ := fun c o c1 c2 c3 c4 c5 e => hs₆.extBut _ _ c1 (k₅ c o c1 c2 (k₄ c o c4 c5 (k₃ c o c1 c2 c3 e)))
        have hTlt : @LT.lt Nat _ z h₄.objs.size := Heap.lt_size hz₄
        have hT₆ : h₆.IsTuple h₄.objs.size #[.int i tk9, .int x t] := ⟨_, hs₆.extBut _ _ (show @Ne Nat _ _ by (first | exact Nat.ne_of_lt (by assumption) | exact Nat.ne_of_gt (by assumption) | exact Nat.ne_of_lt (Nat.lt_trans this (by assumption)) | exact Nat.ne_of_gt (Nat.lt_trans this (by assumption)) | omega +splitDisjunctions)) hT₅', rfl, _, rfl⟩
        have hnC : h₆.Ns C m' := hn'.at' fun o e => kz₆ _ o (show @Ne Nat _ _ by (first | exact Nat.ne_of_lt (by assumption) | exact Nat.ne_of_gt (by assumption) | exact Nat.ne_of_lt (Nat.lt_trans this (by assumption)) | exact Nat.ne_of_gt (Nat.lt_trans this (by assumption)) | omega +splitDisjunctions)) (show @Ne Nat _ _ by (first | exact Nat.ne_of_lt (by assumption) | exact Nat.ne_of_gt (by assumption) | exact Nat.ne_of_lt (Nat.lt_trans this (by assumption)) | exact Nat.ne_of_gt (Nat.lt_trans this (by assumption)) | omega +splitDisjunctions)) (show @Ne Nat _ _ by (first | exact Nat.ne_of_lt (by assumption) | exact Nat.ne_of_gt (by assumption) | exact Nat.ne_of_lt (Nat.lt_trans this (by assumption)) | exact Nat.ne_of_gt (Nat.lt_trans this (by assumption)) | omega +splitDisjunctions)) (show @Ne Nat _ _ by (first | exact Nat.ne_of_lt (by assumption) | exact Nat.ne_of_gt (by assumption) | exact Nat.ne_of_lt (Nat.lt_trans this (by assumption)) | exact Nat.ne_of_gt (Nat.lt_trans this (by assumption)) | omega +splitDisjunctions)) (ns_not_li hn' e) e
        refine kcp_assign (env := compEnvC scope cl C env) (s := { s with heap := h₆, toks := tk₄, gens := gens₄ }) hh hT₆ (lookup_relabel_local hk) (lookup_relabel_local hb) (by simp [compEnvC, relabel, hkind]) hnC fun h₇ tk₇ hn₇ hk₇ => ?_
        have hn₇' : h₇.Ns C (fun z => if z = b then some (.int x t) else if z = k then some (.int i tk9) else m' z) := hn₇
        have hk₇' : ∀ c o, c ≠ C → h₆.get? c = some o → h₇.get? c = some o := hk₇
        refine wpAny_Name (wpAny_loadName_local (s := { s with heap := h₇, toks := tk₇, gens := gens₄ }) (by simp [compEnvC, relabel, hkind]) (lookup_relabel_local hb) hn₇' (v := .int x t) (by simp) ?_) hdb
        have F₇ : Fr h₀ L h₇ m := ⟨F'.ns.at' fun o e => hk₇' _ o (Ne.symm hCL) (kz₆ _ o (show @Ne Nat _ _ by (first | exact Nat.ne_of_lt (by assumption) | exact Nat.ne_of_gt (by assumption) | exact Nat.ne_of_lt (Nat.lt_trans this (by assumption)) | exact Nat.ne_of_gt (Nat.lt_trans this (by assumption)) | omega +splitDisjunctions)) (show @Ne Nat _ _ by (first | exact Nat.ne_of_lt (by assumption) | exact Nat.ne_of_gt (by assumption) | exact Nat.ne_of_lt (Nat.lt_trans this (by assumption)) | exact Nat.ne_of_gt (Nat.lt_trans this (by assumption)) | omega +splitDisjunctions)) (show @Ne Nat _ _ by (first | exact Nat.ne_of_lt (by assumption) | exact Nat.ne_of_gt (by assumption) | exact Nat.ne_of_lt (Nat.lt_trans this (by assumption)) | exact Nat.ne_of_gt (Nat.lt_trans this (by assumption)) | omega +splitDisjunctions)) (show @Ne Nat _ _ by (first | exact Nat.ne_of_lt (by assumption) | exact Nat.ne_of_gt (by assumption) | exact Nat.ne_of_lt (Nat.lt_trans this (by assumption)) | exact Nat.ne_of_gt (Nat.lt_trans this (by assumption)) | omega +splitDisjunctions)) (ns_not_li F'.ns e) e),
          fun c o e => hk₇' c o (fun q => by rw [q, hC₀] at e; cases e) (hs₆.extBut c o (show @Ne Nat _ _ by have := h0F e; omega) (k0₅ c o e)), F'.above⟩
        refine ⟨_, F₇, hn₇', fun p hp => ⟨?_, (N' p hp).2⟩, fun h₈ hs₈ => ?_⟩
        · rcases List.mem_cons.mp hp with rfl | hp
          · exact hk₇' _ _ hDC (kz₆ D _ (show @Ne Nat _ _ by (first | exact Nat.ne_of_lt (by assumption) | exact Nat.ne_of_gt (by assumption) | exact Nat.ne_of_lt (Nat.lt_trans this (by assumption)) | exact Nat.ne_of_gt (Nat.lt_trans this (by assumption)) | omega +splitDisjunctions)) (show @Ne Nat _ _ by (first | exact Nat.ne_of_lt (by assumption) | exact Nat.ne_of_gt (by assumption) | exact Nat.ne_of_lt (Nat.lt_trans this (by assumption)) | exact Nat.ne_of_gt (Nat.lt_trans this (by assumption)) | omega +splitDisjunctions)) (show @Ne Nat _ _ by (first | exact Nat.ne_of_lt (by assumption) | exact Nat.ne_of_gt (by assumption) | exact Nat.ne_of_lt (Nat.lt_trans this (by assumption)) | exact Nat.ne_of_gt (Nat.lt_trans this (by assumption)) | omega +splitDisjunctions)) (show @Ne Nat _ _ by (first | exact Nat.ne_of_lt (by assumption) | exact Nat.ne_of_gt (by assumption) | exact Nat.ne_of_lt (Nat.lt_trans this (by assumption)) | exact Nat.ne_of_gt (Nat.lt_trans this (by assumption)) | omega +splitDisjunctions)) (li_cls rfl (by decide)) hDobj)
          · have := hnF p hp
            exact hk₇' _ _ (show @Ne Nat _ _ by (first | exact Nat.ne_of_lt (by assumption) | exact Nat.ne_of_gt (by assumption) | exact Nat.ne_of_lt (Nat.lt_trans this (by assumption)) | exact Nat.ne_of_gt (Nat.lt_trans this (by assumption)) | omega +splitDisjunctions)) (kz₆ _ _ (show @Ne Nat _ _ by (first | exact Nat.ne_of_lt (by assumption) | exact Nat.ne_of_gt (by assumption) | exact Nat.ne_of_lt (Nat.lt_trans this (by assumption)) | exact Nat.ne_of_gt (Nat.lt_trans this (by assumption)) | omega +splitDisjunctions)) (show @Ne Nat _ _ by (first | exact Nat.ne_of_lt (by assumption) | exact Nat.ne_of_gt (by assumption) | exact Nat.ne_of_lt (Nat.lt_trans this (by assumption)) | exact Nat.ne_of_gt (Nat.lt_trans this (by assumption)) | omega +splitDisjunctions)) (show @Ne Nat _ _ by (first | exact Nat.ne_of_lt (by assumption) | exact Nat.ne_of_gt (by assumption) | exact Nat.ne_of_lt (Nat.lt_trans this (by assumption)) | exact Nat.ne_of_gt (Nat.lt_trans this (by assumption)) | omega +splitDisjunctions)) (show @Ne Nat _ _ by (first | exact Nat.ne_of_lt (by assumption) | exact Nat.ne_of_gt (by assumption) | exact Nat.ne_of_lt (Nat.lt_trans this (by assumption)) | exact Nat.ne_of_gt (Nat.lt_trans this (by assumption)) | omega +splitDisjunctions)) (hnl p hp) (N'' p hp).1)
        · have up : ∀ c o, c ≠ C → c ≠ D → h₆.get? c = some o → h₈.get? c = some o := fun c o c1 c2 e => hs₈.extBut _ _ c2 (hk₇' c o c1 e)
          have up₄ : ∀ c o, c ≠ C → c ≠ D → c ≠ z → c ≠ TO → h₄.get? c = some o → h₈.get? c = some o := fun c o c1 c2 c3 c4 e => up c o c1 c2 (hs₆.extBut _ _ c3 (k₅ c o c3 c4 e))
          have hsub : N - i = N - (i + 1) + 1 := by (first | exact Nat.ne_of_lt (by assumption) | exact Nat.ne_of_gt (by assumption) | exact Nat.ne_of_lt (Nat.lt_trans this (by assumption)) | exact Nat.ne_of_gt (Nat.lt_trans this (by assumption)) | omega +splitDisjunctions)
          refine ⟨g', ns' ++ [x], _, _, ints_snoc hys, by rw [List.length_append, hnl']; rfl, ?_, up _ _ (show @Ne Nat _ _ by (first | exact Nat.ne_of_lt (by assumption) | exact Nat.ne_of_gt (by assumption) | exact Nat.ne_of_lt (Nat.lt_trans this (by assumption)) | exact Nat.ne_of_gt (Nat.lt_trans this (by assumption)) | omega +splitDisjunctions)) (show @Ne Nat _ _ by (first | exact Nat.ne_of_lt (by assumption) | exact Nat.ne_of_gt (by assumption) | exact Nat.ne_of_lt (Nat.lt_trans this (by assumption)) | exact Nat.ne_of_gt (Nat.lt_trans this (by assumption)) | omega +splitDisjunctions)) hz₆, ?_, up _ _ (show @Ne Nat _ _ by (first | exact Nat.ne_of_lt (by assumption) | exact Nat.ne_of_gt (by assumption) | exact Nat.ne_of_lt (Nat.lt_trans this (by assumption)) | exact Nat.ne_of_gt (Nat.lt_trans this (by assumption)) | omega +splitDisjunctions)) (show @Ne Nat _ _ by (first | exact Nat.ne_of_lt (by assumption) | exact Nat.ne_of_gt (by assumption) | exact Nat.ne_of_lt (Nat.lt_trans this (by assumption)) | exact Nat.ne_of_gt (Nat.lt_trans this (by assumption)) | omega +splitDisjunctions)) (hs₆.extBut _ _ (show @Ne Nat _ _ by (first | exact Nat.ne_of_lt (by assumption) | exact Nat.ne_of_gt (by assumption) | exact Nat.ne_of_lt (Nat.lt_trans this (by assumption)) | exact Nat.ne_of_gt (Nat.lt_trans this (by assumption)) | omega +splitDisjunctions)) hTO₅), ?_, ?_, h₈, tk₇, gens₄, rfl, gq9.trans gq₄⟩
          · rw [hvals, hsub, GS.vals_item hstep, List.append_assoc]; rfl
          · exact up₄ _ _ (show @Ne Nat _ _ by (first | exact Nat.ne_of_lt (by assumption) | exact Nat.ne_of_gt (by assumption) | exact Nat.ne_of_lt (Nat.lt_trans this (by assumption)) | exact Nat.ne_of_gt (Nat.lt_trans this (by assumption)) | omega +splitDisjunctions)) (show @Ne Nat _ _ by (first | exact Nat.ne_of_lt (by assumption) | exact Nat.ne_of_gt (by assumption) | exact Nat.ne_of_lt (Nat.lt_trans this (by assumption)) | exact Nat.ne_of_gt (Nat.lt_trans this (by assumption)) | omega +splitDisjunctions)) (show @Ne Nat _ _ by (first | exact Nat.ne_of_lt (by assumption) | exact Nat.ne_of_gt (by assumption) | exact Nat.ne_of_lt (Nat.lt_trans this (by assumption)) | exact Nat.ne_of_gt (Nat.lt_trans this (by assumption)) | omega +splitDisjunctions)) (show @Ne Nat _ _ by (first | exact Nat.ne_of_lt (by assumption) | exact Nat.ne_of_gt (by assumption) | exact Nat.ne_of_lt (Nat.lt_trans this (by assumption)) | exact Nat.ne_of_gt (Nat.lt_trans this (by assumption)) | omega +splitDisjunctions)) (k₄ _ _ (show @Ne Nat _ _ by (first | exact Nat.ne_of_lt (by assumption) | exact Nat.ne_of_gt (by assumption) | exact Nat.ne_of_lt (Nat.lt_trans this (by assumption)) | exact Nat.ne_of_gt (Nat.lt_trans this (by assumption)) | omega +splitDisjunctions)) (li_cls rfl (by decide)) (k₃ _ _ (show @Ne Nat _ _ by (first | exact Nat.ne_of_lt (by assumption) | exact Nat.ne_of_gt (by assumption) | exact Nat.ne_of_lt (Nat.lt_trans this (by assumption)) | exact Nat.ne_of_gt (Nat.lt_trans this (by assumption)) | omega +splitDisjunctions)) (show @Ne Nat _ _ by (first | exact Nat.ne_of_lt (by assumption) | exact Nat.ne_of_gt (by assumption) | exact Nat.ne_of_lt (Nat.lt_trans this (by assumption)) | exact Nat.ne_of_gt (Nat.lt_trans this (by assumption)) | omega +splitDisjunctions)) (show @Ne Nat _ _ by (first | exact Nat.ne_of_lt (by assumption) | exact Nat.ne_of_gt (by assumption) | exact Nat.ne_of_lt (Nat.lt_trans this (by assumption)) | exact Nat.ne_of_gt (Nat.lt_trans this (by assumption)) | omega +splitDisjunctions)) hTI'))
          · have hr₃ : IsRangeIter h₃ i1 (i + 1) (N - i - 1) 1 := hs₃.extBut _ _ (show @Ne Nat _ _ by (first | exact Nat.ne_of_lt (by assumption) | exact Nat.ne_of_gt (by assumption) | exact Nat.ne_of_lt (Nat.lt_trans this (by assumption)) | exact Nat.ne_of_gt (Nat.lt_trans this (by assumption)) | omega +splitDisjunctions)) hr₂
            have hr₈ := up₄ _ _ (show @Ne Nat _ _ by (first | exact Nat.ne_of_lt (by assumption) | exact Nat.ne_of_gt (by assumption) | exact Nat.ne_of_lt (Nat.lt_trans this (by assumption)) | exact Nat.ne_of_gt (Nat.lt_trans this (by assumption)) | omega +splitDisjunctions)) (show @Ne Nat _ _ by (first | exact Nat.ne_of_lt (by assumption) | exact Nat.ne_of_gt (by assumption) | exact Nat.ne_of_lt (Nat.lt_trans this (by assumption)) | exact Nat.ne_of_gt (Nat.lt_trans this (by assumption)) | omega +splitDisjunctions)) (show @Ne Nat _ _ by (first | exact Nat.ne_of_lt (by assumption) | exact Nat.ne_of_gt (by assumption) | exact Nat.ne_of_lt (Nat.lt_trans this (by assumption)) | exact Nat.ne_of_gt (Nat.lt_trans this (by assumption)) | omega +splitDisjunctions)) (show @Ne Nat _ _ by (first | exact Nat.ne_of_lt (by assumption) | exact Nat.ne_of_gt (by assumption) | exact Nat.ne_of_lt (Nat.lt_trans this (by assumption)) | exact Nat.ne_of_gt (Nat.lt_trans this (by assumption)) | omega +splitDisjunctions)) (k₄ _ _ (show @Ne Nat _ _ by (first | exact Nat.ne_of_lt (by assumption) | exact Nat.ne_of_gt (by assumption) | exact Nat.ne_of_lt (Nat.lt_trans this (by assumption)) | exact Nat.ne_of_gt (Nat.lt_trans this (by assumption)) | omega +splitDisjunctions)) (li_cls rfl (by decide)) hr₃)
            have e1 : ((i + 1 : Nat) : Int) = (i : Int) + 1 := by (first | exact Nat.ne_of_lt (by assumption) | exact Nat.ne_of_gt (by assumption) | exact Nat.ne_of_lt (Nat.lt_trans this (by assumption)) | exact Nat.ne_of_gt (Nat.lt_trans this (by assumption)) | omega +splitDisjunctions)
            have e2 : (N : Int) - ((i + 1 : Nat) : Int) = (N : Int) - i - 1 := by (first | exact Nat.ne_of_lt (by assumption) | exact Nat.ne_of_gt (by assumption) | exact Nat.ne_of_lt (Nat.lt_trans this (by assumption)) | exact Nat.ne_of_gt (Nat.lt_trans this (by assumption)) | omega +splitDisjunctions)
            rw [e1]
            have e3 : (N : Int) - ((i : Int) + 1) = (N : Int) - i - 1 := by (first | exact Nat.ne_of_lt (by assumption) | exact Nat.ne_of_gt (by assumption) | exact Nat.ne_of_lt (Nat.lt_trans this (by assumption)) | exact Nat.ne_of_gt (Nat.lt_trans this (by assumption)) | omega +splitDisjunctions)
            rw [e3]
            exact hr₈
          · have hsub' : N - (i + 1) = N - i - 1 := by (first | exact Nat.ne_of_lt (by assumption) | exact Nat.ne_of_gt (by assumption) | exact Nat.ne_of_lt (Nat.lt_trans this (by assumption)) | exact Nat.ne_of_gt (Nat.lt_trans this (by assumption)) | omega +splitDisjunctions)
            rw [hsub']
            refine G₄.keep (fun c o h e => ?_) ?_ rfl
            · have e' : h₄.get? c = some o := e
              have hcl : (c ≠ C ∧ c ≠ D ∧ c ≠ z ∧ c ≠ TO) := by
                rcases h with rfl | rfl | h | h
                · exact ⟨show @Ne Nat _ _ by (first | exact Nat.ne_of_lt (by assumption) | exact Nat.ne_of_gt (by assumption) | exact Nat.ne_of_lt (Nat.lt_trans this (by assumption)) | exact Nat.ne_of_gt (Nat.lt_trans this (by assumption)) | omega +splitDisjunctions), show @Ne Nat _ _ by (first | exact Nat.ne_of_lt (by assumption) | exact Nat.ne_of_gt (by assumption) | exact Nat.ne_of_lt (Nat.lt_trans this (by assumption)) | exact Nat.ne_of_gt (Nat.lt_trans this (by assumption)) | omega +splitDisjunctions), show @Ne Nat _ _ by (first | exact Nat.ne_of_lt (by assumption) | exact Nat.ne_of_gt (by assumption) | exact Nat.ne_of_lt (Nat.lt_trans this (by assumption)) | exact Nat.ne_of_gt (Nat.lt_trans this (by assumption)) | omega +splitDisjunctions), show @Ne Nat _ _ by (first | exact Nat.ne_of_lt (by assumption) | exact Nat.ne_of_gt (by assumption) | exact Nat.ne_of_lt (Nat.lt_trans this (by assumption)) | exact Nat.ne_of_gt (Nat.lt_trans this (by assumption)) | omega +splitDisjunctions)⟩
                · exact ⟨show @Ne Nat _ _ by (first | exact Nat.ne_of_lt (by assumption) | exact Nat.ne_of_gt (by assumption) | exact Nat.ne_of_lt (Nat.lt_trans this (by assumption)) | exact Nat.ne_of_gt (Nat.lt_trans this (by assumption)) | omega +splitDisjunctions), show @Ne Nat _ _ by (first | exact Nat.ne_of_lt (by assumption) | exact Nat.ne_of_gt (by assumption) | exact Nat.ne_of_lt (Nat.lt_trans this (by assumption)) | exact Nat.ne_of_gt (Nat.lt_trans this (by assumption)) | omega +splitDisjunctions), show @Ne Nat _ _ by (first | exact Nat.ne_of_lt (by assumption) | exact Nat.ne_of_gt (by assumption) | exact Nat.ne_of_lt (Nat.lt_trans this (by assumption)) | exact Nat.ne_of_gt (Nat.lt_trans this (by assumption)) | omega +splitDisjunctions), show @Ne Nat _ _ by (first | exact Nat.ne_of_lt (by assumption) | exact Nat.ne_of_gt (by assumption) | exact Nat.ne_of_lt (Nat.lt_trans this (by assumption)) | exact Nat.ne_of_gt (Nat.lt_trans this (by assumption)) | omega +splitDisjunctions)⟩
                · refine ⟨fun q => ?_, fun q => ?_, fun q => zli hz₄ (q ▸ e') h, fun q => pli hTO₄ (q ▸ e') h⟩
                  · obtain ⟨oC, heC, hoC⟩ := ns_obj hn'
                    have hx := k₄ _ _ (show @Ne Nat _ _ by (first | exact Nat.ne_of_lt (by assumption) | exact Nat.ne_of_gt (by assumption) | exact Nat.ne_of_lt (Nat.lt_trans this (by assumption)) | exact Nat.ne_of_gt (Nat.lt_trans this (by assumption)) | omega +splitDisjunctions)) (ns_not_li hn' heC) (k₃ _ _ (show @Ne Nat _ _ by (first | exact Nat.ne_of_lt (by assumption) | exact Nat.ne_of_gt (by assumption) | exact Nat.ne_of_lt (Nat.lt_trans this (by assumption)) | exact Nat.ne_of_gt (Nat.lt_trans this (by assumption)) | omega +splitDisjunctions)) (show @Ne Nat _ _ by (first | exact Nat.ne_of_lt (by assumption) | exact Nat.ne_of_gt (by assumption) | exact Nat.ne_of_lt (Nat.lt_trans this (by assumption)) | exact Nat.ne_of_gt (Nat.lt_trans this (by assumption)) | omega +splitDisjunctions)) (show @Ne Nat _ _ by (first | exact Nat.ne_of_lt (by assumption) | exact Nat.ne_of_gt (by assumption) | exact Nat.ne_of_lt (Nat.lt_trans this (by assumption)) | exact Nat.ne_of_gt (Nat.lt_trans this (by assumption)) | omega +splitDisjunctions)) heC)
                    rw [q, hx] at e'
                    cases e'
                    exact ns_not_li hn' heC h
                  · have hx := k₄ _ _ (show @Ne Nat _ _ by (first | exact Nat.ne_of_lt (by assumption) | exact Nat.ne_of_gt (by assumption) | exact Nat.ne_of_lt (Nat.lt_trans this (by assumption)) | exact Nat.ne_of_gt (Nat.lt_trans this (by assumption)) | omega +splitDisjunctions)) (li_cls (n := "list") rfl (by decide)) (k₃ _ _ (show @Ne Nat _ _ by (first | exact Nat.ne_of_lt (by assumption) | exact Nat.ne_of_gt (by assumption) | exact Nat.ne_of_lt (Nat.lt_trans this (by assumption)) | exact Nat.ne_of_gt (Nat.lt_trans this (by assumption)) | omega +splitDisjunctions)) (show @Ne Nat _ _ by (first | exact Nat.ne_of_lt (by assumption) | exact Nat.ne_of_gt (by assumption) | exact Nat.ne_of_lt (Nat.lt_trans this (by assumption)) | exact Nat.ne_of_gt (Nat.lt_trans this (by assumption)) | omega +splitDisjunctions)) (show @Ne Nat _ _ by (first | exact Nat.ne_of_lt (by assumption) | exact Nat.ne_of_gt (by assumption) | exact Nat.ne_of_lt (Nat.lt_trans this (by assumption)) | exact Nat.ne_of_gt (Nat.lt_trans this (by assumption)) | omega +splitDisjunctions)) hDobj)
                    rw [q, hx] at e'
                    cases e'
                    exact li_cls (n := "list") rfl (by decide) h
                · have := h0F h
                  exact ⟨show @Ne Nat _ _ by (first | exact Nat.ne_of_lt (by assumption) | exact Nat.ne_of_gt (by assumption) | exact Nat.ne_of_lt (Nat.lt_trans this (by assumption)) | exact Nat.ne_of_gt (Nat.lt_trans this (by assumption)) | omega +splitDisjunctions), show @Ne Nat _ _ by (first | exact Nat.ne_of_lt (by assumption) | exact Nat.ne_of_gt (by assumption) | exact Nat.ne_of_lt (Nat.lt_trans this (by assumption)) | exact Nat.ne_of_gt (Nat.lt_trans this (by assumption)) | omega +splitDisjunctions), show @Ne Nat _ _ by (first | exact Nat.ne_of_lt (by assumption) | exact Nat.ne_of_gt (by assumption) | exact Nat.ne_of_lt (Nat.lt_trans this (by assumption)) | exact Nat.ne_of_gt (Nat.lt_trans this (by assumption)) | omega +splitDisjunctions), show @Ne Nat _ _ by (first | exact Nat.ne_of_lt (by assumption) | exact Nat.ne_of_gt (by assumption) | exact Nat.ne_of_lt (Nat.lt_trans this (by assumption)) | exact Nat.ne_of_gt (Nat.lt_trans this (by assumption)) | omega +splitDisjunctions)⟩
              exact up₄ c o hcl.1 hcl.2.1 hcl.2.2.1 hcl.2.2.2 e'
            · obtain ⟨o, nm, qn, ho, r⟩ := G₄.gen
              exact ⟨o, nm, qn, up₄ _ o (show @Ne Nat _ _ by (first | exact Nat.ne_of_lt (by assumption) | exact Nat.ne_of_gt (by assumption) | exact Nat.ne_of_lt (Nat.lt_trans this (by assumption)) | exact Nat.ne_of_gt (Nat.lt_trans this (by assumption)) | omega +splitDisjunctions)) (show @Ne Nat _ _ by (first | exact Nat.ne_of_lt (by assumption) | exact Nat.ne_of_gt (by assumption) | exact Nat.ne_of_lt (Nat.lt_trans this (by assumption)) | exact Nat.ne_of_gt (Nat.lt_trans this (by assumption)) | omega +splitDisjunctions)) (show @Ne Nat _ _ by (first | exact Nat.ne_of_lt (by assumption) | exact Nat.ne_of_gt (by assumption) | exact Nat.ne_of_lt (Nat.lt_trans this (by assumption)) | exact Nat.ne_of_gt (Nat.lt_trans this (by assumption)) | omega +splitDisjunctions)) (show @Ne Nat _ _ by (first | exact Nat.ne_of_lt (by assumption) | exact Nat.ne_of_gt (by assumption) | exact Nat.ne_of_lt (Nat.lt_trans this (by assumption)) | exact Nat.ne_of_gt (Nat.lt_trans this (by assumption)) | omega +splitDisjunctions)) ho, r⟩
      · obtain ⟨oe, hoe, hce⟩ := he
        have hz₄ : IsZip h₄ z TI TO .ellipsis := k₄ _ _ (show @Ne Nat _ _ by (first | exact Nat.ne_of_lt (by assumption) | exact Nat.ne_of_gt (by assumption) | exact Nat.ne_of_lt (Nat.lt_trans this (by assumption)) | exact Nat.ne_of_gt (Nat.lt_trans this (by assumption)) | omega +splitDisjunctions)) (li_cls rfl (by decide)) hz₃
        refine ⟨hz₄, fun h₅ hs₅ => ?_⟩
        have hez : e ≠ z := fun q => by subst q; rw [hz₄] at hoe; cases hoe; simp at hce
        refine wpAny_isInstance (T := "StopIteration") (b := true) ⟨oe, hs₅.extBut _ _ hez hoe, hce⟩ isSubtype_stop ?_
        rw [if_pos rfl]
        refine fin h₅ tk₄ gens₄ (fun c o c1 c2 c3 c4 c5 x => hs₅.extBut _ _ c1 (k₄ c o c4 c5 (k₃ c o c1 c2 c3 x))) (fun c o x => ?_) (GS.vals_stop hstep _) (gq9.trans gq₄)
        obtain ⟨mF, FF⟩ := hF₄
        have := h0F x
        exact hs₅.extBut _ _ (show @Ne Nat _ _ by (first | exact Nat.ne_of_lt (by assumption) | exact Nat.ne_of_gt (by assumption) | exact Nat.ne_of_lt (Nat.lt_trans this (by assumption)) | exact Nat.ne_of_gt (Nat.lt_trans this (by assumption)) | omega +splitDisjunctions)) (FF.keep c o x)
    · have hin : i = N := by (first | exact Nat.ne_of_lt (by assumption) | exact Nat.ne_of_gt (by assumption) | exact Nat.ne_of_lt (Nat.lt_trans this (by assumption)) | exact Nat.ne_of_gt (Nat.lt_trans this (by assumption)) | omega +splitDisjunctions)
      subst hin
      refine range_nextOf_end (A := A.in1) hh hi₁ (by (first | exact Nat.ne_of_lt (by assumption) | exact Nat.ne_of_gt (by assumption) | exact Nat.ne_of_lt (Nat.lt_trans this (by assumption)) | exact Nat.ne_of_gt (Nat.lt_trans this (by assumption)) | omega +splitDisjunctions)) fun h₂ e hx₂ he => ?_
      obtain ⟨oe, hoe, hce⟩ := he
      have hz₂ : IsZip h₂ z TI TO .ellipsis := hx₂ _ _ (show @Ne Nat _ _ by (first | exact Nat.ne_of_lt (by assumption) | exact Nat.ne_of_gt (by assumption) | exact Nat.ne_of_lt (Nat.lt_trans this (by assumption)) | exact Nat.ne_of_gt (Nat.lt_trans this (by assumption)) | omega +splitDisjunctions)) hz₁
      refine ⟨hz₂, fun h₅ hs₅ => ?_⟩
      have hez : e ≠ z := fun q => by subst q; rw [hz₂] at hoe; cases hoe; simp at hce
      refine wpAny_isInstance (T := "StopIteration") (b := true) ⟨oe, hs₅.extBut _ _ hez hoe, hce⟩ isSubtype_stop ?_
      rw [if_pos rfl]
      refine fin h₅ _ _ (fun c o c1 c2 c3 c4 c5 x => hs₅.extBut _ _ c1 (hx₂ _ _ c3 (hs₁.extBut _ _ c1 x))) (fun c o x => ?_) (by simp [GS.vals]) gq9
      have := h0F x
      exact hs₅.extBut _ _ (show @Ne Nat _ _ by (first | exact Nat.ne_of_lt (by assumption) | exact Nat.ne_of_gt (by assumption) | exact Nat.ne_of_lt (Nat.lt_trans this (by assumption)) | exact Nat.ne_of_gt (Nat.lt_trans this (by assumption)) | omega +splitDisjunctions)) (hx₂ _ _ (show @Ne Nat _ _ by (first | exact Nat.ne_of_lt (by assumption) | exact Nat.ne_of_gt (by assumption) | exact Nat.ne_of_lt (Nat.lt_trans this (by assumption)) | exact Nat.ne_of_gt (Nat.lt_trans this (by assumption)) | omega +splitDisjunctions)) (hs₁.extBut _ _ (show @Ne Nat _ _ by (first | exact Nat.ne_of_lt (by assumption) | exact Nat.ne_of_gt (by assumption) | exact Nat.ne_of_lt (Nat.lt_trans this (by assumption)) | exact Nat.ne_of_gt (Nat.lt_trans this (by assumption)) | omega +splitDisjunctions)) (F'.keep c o x)))
end
end Mine
end
section
open PySem PySem.W PyProof.Rows PySem.Calls PyProof.Rows.LCg
set_option maxRecDepth 100000
namespace Mine
section
variable {prog : Program} {w : World} {A : Around} {E : Value → Shared → Prop} {s : Shared} {h₀ : Heap} {L : Addr} {m : Str → Option Value} {env : Env}
/-- a list comprehension over any iterator, its value handed on -/
theorem g_eval {target elt iter : Expr} {scope : Scope} {cl : List (Str × Addr)} {pos : Pos} {Q : Value → Shared → Prop} (news : List (Addr × Obj)) (Fin : List Value → Shared → Prop)
    (hclos : closureFor scope env = pure cl) (hcell : ∀ z ∈ scope.names, z.2 ≠ .cell) (hkind : scope.kind = .function)
    (hnames : ∀ z ∈ scope.names, z.2 = .local → scope.names.lookup z.1 = some .local)
    (h : wpAny (model prog w) A (eval iter env) (fun xv s₁ => wpAny (model prog w) A (pyIter xv) (GSrc prog w A h₀ L m env target elt scope cl news Fin) E s₁) E s)
    (fin : ∀ D ys s₁ h', Fin ys s₁ → Fr h₀ L h' m → News h₀ L h' ((D, lst ys) :: news) → Off1 D news → Q (.ref D) { s₁ with heap := h' })
    (hs : ∀ x, foldedSetIterable iter env x = pure x := by intro _; rfl) :
    wpAny (model prog w) A (eval (.ListComp elt [⟨target, iter, [], 0⟩] scope pos) env) Q E s := by
  rw [eval_ListComp]
  refine wpAny_comprehension_free (use := none) rfl hs hclos hkind hnames (wpAny_mono h (fun xv s₁ h₁ => wpAny_mono h₁ (fun it s₂ h₂ => ?_) fun _ _ e => e) fun _ _ e => e)
  obtain ⟨J, n, hsz, F, N, self, start, turn⟩ := h₂
  refine g_block (RR := fun acc C => compPost (model prog w) A E none Q acc C) J Fin n hsz hcell hkind F N self start turn ?_
  intro D C ys s₃ m₁ F' N' o1 hn hC₀ hD₀ hCL hDL hCD offC hfin
  refine ⟨m₁, hn, fun h'' hs'' => fin D ys s₃ h'' hfin (F'.change hs'' hCL hC₀) (fun p hp => ?_) o1⟩
  refine ⟨hs''.extBut _ _ ?_ (N' p hp).1, (N' p hp).2⟩
  rcases List.mem_cons.mp hp with rfl | hp
  · exact Ne.symm hCD
  · exact offC p hp
theorem GSrc.mono {target elt : Expr} {scope : Scope} {cl : List (Str × Addr)} {news : List (Addr × Obj)} {Fin Fin' : List Value → Shared → Prop} {it : Value} {s₂ : Shared} (hf : ∀ ys s₁, Fin ys s₁ → Fin' ys s₁)
    (G : GSrc prog w A h₀ L m env target elt scope cl news Fin it s₂) : GSrc prog w A h₀ L m env target elt scope cl news Fin' it s₂ := by
  obtain ⟨J, n, hsz, F, N, self, start, turn⟩ := G
  refine ⟨J, n, hsz, F, N, self, start, fun D C i ys s' m' Er a1 a2 a3 a4 a5 a6 a7 a8 a9 a10 a11 a12 a13 => wpAny_mono (turn D C i ys s' m' Er a1 a2 a3 a4 a5 a6 a7 a8 a9 a10 a11 a12 a13) (fun r s₁ h => ?_) fun _ _ e => e⟩
  cases r with
  | none =>
    obtain ⟨m₁, F₁, n₁, N₁, hF⟩ := h
    exact ⟨m₁, F₁, n₁, N₁, hf _ _ hF⟩
  | some v => exact h
/-- a zip of a range and of a living generator, just made -/
structure ZSrc (prog : Program) (w : World) (A : Around) (h₀ : Heap) (L : Addr) (m : Str → Option Value) (news : List (Addr × Obj)) (Rw : Addr) (N : Nat) (cur : GS) (s₀ : Shared) (xv : Value) (s₁ : Shared) : Prop where
  ex : ∃ z TI TO i1 a FL g h tk gens, xv = .ref z ∧ s₁ = { s₀ with heap := h, toks := tk, gens := gens } ∧ Fr h₀ L h m ∧ News h₀ L h news ∧ (∀ p ∈ news, @LT.lt Nat _ p.1 FL) ∧ @LT.lt Nat _ L FL ∧
    @LT.lt Nat _ FL a ∧ @LT.lt Nat _ a i1 ∧ @LT.lt Nat _ i1 TI ∧ @LT.lt Nat _ TI TO ∧ @LT.lt Nat _ TO z ∧ IsZip h z TI TO .none ∧ IsPair h TI (.ref i1) (.ref a) ∧ IsPair h TO .none .none ∧ IsRangeIter h i1 0 N 1 ∧
    GLive prog w A.in1 h₀ a g FL Rw N cur s₁ ∧ ∀ gens', GenOnlyQ g gens gens' → AllBare gens'
theorem zip_call {r a FL g : Nat} {N : Nat} {t u v : Tok} {news : List (Addr × Obj)} {Rw : Addr} {cur : GS} {s₀ : Shared} (hN : Builtin.Range.small 0 N 1 = true) (hsz : Builtin.Range.rangeSize 0 N 1 = N)
    (hr : IsRange s.heap r 0 N 1 t u v) (F : Fr h₀ L s.heap m) (N9 : News h₀ L s.heap news) (G : GLive prog w A.in1 h₀ a g FL Rw N cur s) (hnF : ∀ p ∈ news, @LT.lt Nat _ p.1 FL) (hLF : @LT.lt Nat _ L FL) (ha : FL < a)
    (hs : ∃ h tk gens, s = { s₀ with heap := h, toks := tk, gens := gens }) (hb : ∀ gens', GenOnlyQ g s.gens gens' → AllBare gens') :
    wpAny (model prog w) A (call (.type "zip") [.ref r, .ref a]) (ZSrc prog w A h₀ L m news Rw N cur s₀) E s := by
  refine call_zip_rg hr hN hsz G.gen fun h' z1 z2 z3 z4 z5 up => ?_
  have hlt : @LT.lt Nat _ a s.heap.objs.size := by obtain ⟨o, nm, qn, ho, _⟩ := G.gen; exact Heap.lt_size ho
  obtain ⟨h, tk, gens, e⟩ := hs
  have e1 : ({ s with heap := h' } : Shared) = { s₀ with heap := h', toks := tk, gens := gens } := by rw [e]
  have e2 : s.gens = gens := by rw [e]
  exact ⟨_, _, _, _, a, FL, g, h', tk, gens, rfl, e1, F.keeps up, N9.keeps up, hnF, hLF, ha, hlt, Nat.lt_succ_self _, Nat.lt_succ_self _, Nat.lt_succ_self _, z1, z2, z3, z4,
    G.keep (fun c o _ x => up c o x) (G.gen.keeps up) rfl, e2 ▸ hb⟩
theorem sizes_eval {k b : Str} {pk pb pe tp : Pos} {kk : Nat} {iter : Expr} {scope : Scope} {cl : List (Str × Addr)} {news : List (Addr × Obj)} {pos : Pos} {Rw : Addr} {N : Nat} {cur : GS} {Q : Value → Shared → Prop}
    (_F : Fr h₀ L s.heap m) (_N : News h₀ L s.heap news) (hh : A.handled = none) (hroom : A.depth < recursionLimit) (hlim : h₀.NoLimit) (hkind : scope.kind = .function) (hk : scope.names.lookup k = some .local) (hb : scope.names.lookup b = some .local) (hdb : (b == ("__debug__" : Str)) = false) (hNs : N ≤ sizeLine)
    (hclos : closureFor scope env = pure cl) (hcell : ∀ z ∈ scope.names, z.2 ≠ .cell) (hnames : ∀ z ∈ scope.names, z.2 = .local → scope.names.lookup z.1 = some .local)
    (hnl : ∀ p ∈ news, ¬ LI p.2) (hRw : ∃ o, (Rw, o) ∈ news)
    (hev : wpAny (model prog w) A (eval iter env) (ZSrc prog w A h₀ L m news Rw N cur s) E s)
    (fin : ∀ D ys h' tk gens', IntsAre ys (cur.vals N) → AllBare gens' → Fr h₀ L h' m → News h₀ L h' ((D, lst ys) :: news) → Off1 D news → Q (.ref D) { s with heap := h', toks := tk, gens := gens' })
    (hs : ∀ x, foldedSetIterable iter env x = pure x := by intro _; rfl) :
    wpAny (model prog w) A (eval (.ListComp (.Name b pe) [⟨.Tuple [.Name k pk, .Name b pb] kk tp, iter, [], 0⟩] scope pos) env) Q E s := by
  refine g_eval (h₀ := h₀) (L := L) (m := m) news (fun ys s₁ => IntsAre ys (cur.vals N) ∧ ∃ h tk gens', s₁ = { s with heap := h, toks := tk, gens := gens' } ∧ AllBare gens') hclos hcell hkind hnames
    (wpAny_mono hev (fun xv s₁ hz => ?_) fun _ _ e => e) ?_ hs
  · obtain ⟨z, TI, TO, i1, a, FL, g, h, tk, gens, rfl, rfl, F, N9, hnF, hLF, o1, o2, o3, o4, o5, hz, hTI, hTO, hi1, G, hbare⟩ := hz.ex
    refine wpAny_mono (zip_src (s := { s with heap := h, toks := tk, gens := gens }) hh hroom hlim hkind hk hb hdb hNs F N9 hnl hnF hLF hRw o1 o2 o3 o4 o5 hz hTI hTO hi1 G) (fun it s₂ h₂ => h₂.mono fun ys s₁ hf => ?_) fun _ _ e => e
    obtain ⟨h1, h', tk', gens', rfl, hg⟩ := hf
    exact ⟨h1, h', tk', gens', rfl, hbare _ hg⟩
  · rintro D ys s₁ h' ⟨h1, h2, tk, gens', rfl, hbr⟩ F' N' o1
    exact fin D ys h' tk gens' h1 hbr F' N' o1
theorem assign_comp {M : Model} {x : Str} {pos' pos : Pos} {value : Expr} {Q : Flow → Shared → Prop} (hs : swapsWith value (some (.Name x pos')) pos.line env = pure false)
    (h : wpAny M A (eval value env) (fun v s' => wpAny M A (storeName env x v) (fun _ s'' => Q .next s'') E s') E s) : wpAny M A (exec (.Assign [.Name x pos'] value pos) env) Q E s := by
  rw [exec_Assign_Name (hs := hs)]
  exact wpAny_bind (wpAny_standAt (wpAny_bind (wpAny_mono h (fun v s' h' => wpAny_bind (wpAny_standAt (wpAny_bind (wpAny_bindName (wpAny_mono h' (fun _ _ q => wpAny_pure q) fun _ _ e => e))))) fun _ _ e => e)))
theorem bare_after {g : Nat} {gens gens' : Array GenState} {gs : GenState} (h0 : AllBare gens) (hb : gs.bare = true) (hg : GenOnlyQ g (gens.push gs) gens') : AllBare gens' :=
  hg.bare fun x hx => by
    rcases Array.mem_push.mp hx with hx | rfl
    · exact h0 x hx
    · exact hb
theorem GS.vals_len : ∀ (n : Nat) (g : GS), (g.vals n).length ≤ n
  | 0, _ => Nat.le_refl _
  | n + 1, g => by
    unfold GS.vals
    split
    · rw [List.length_cons]; exact Nat.succ_le_succ (GS.vals_len n _)
    · exact Nat.zero_le _
theorem from_len {vs : List Value} {cs ag : List Int} (hi : IntsAre vs (cs ++ ag)) : IntsAre (slicePick vs.toArray (some (cs.length : Int)) none none).toList ag := by
  have z := kmk_from hi (x := (cs.length : Int)) (by omega)
  rw [Int.toNat_natCast, List.drop_left] at z
  exact z
theorem upto_len {vs : List Value} {cs ag : List Int} (hi : IntsAre vs (cs ++ ag)) : IntsAre (slicePick vs.toArray none (some (cs.length : Int)) none).toList cs := by
  have z := kmk_upto hi (y := (cs.length : Int)) (by omega)
  rw [Int.toNat_natCast, List.take_left] at z
  exact z
theorem nine_sz {vs : List Value} {ns : List Int} (hi : IntsAre vs ns) (h : ns.length ≤ 9) : vs.toArray.size ≤ sizeLine := kmk_sz hi (Nat.le_trans h (by rw [sizeLine_eq]; decide))
theorem nl_nil : ∀ p ∈ ([] : List (Addr × Obj)), ¬ LI p.2 := fun _ h => nomatch h
theorem nl_cons {a : Addr} {o : Obj} {l : List (Addr × Obj)} (h : ¬ LI o) (hl : ∀ p ∈ l, ¬ LI p.2) : ∀ p ∈ (a, o) :: l, ¬ LI p.2 := fun p hp => by
  rcases List.mem_cons.mp hp with rfl | hp
  · exact h
  · exact hl p hp
theorem nl_list {vs : Array Value} {c : Nat} : ¬ LI (listOf vs c) := li_cls (n := "list") rfl (by decide)
theorem nl_cell {o : Obj} {v : Option Value} (h : o.data = .cell v) : ¬ LI o := fun ⟨_, vs, e⟩ => by rw [h] at e; cases e
theorem lt_news {h : Heap} {news : List (Addr × Obj)} (N : News h₀ L h news) : ∀ p ∈ news, @LT.lt Nat _ p.1 h.objs.size := fun p hp => Heap.lt_size (N p hp).1
end
end Mine
end
section
open PySem PySem.W PyProof.Rows PySem.Calls PyProof.Rows.LCg
set_option maxRecDepth 100000
namespace Mine
/-- what the law leaves in `row` and `again` -/
structure RowP (cs rs ag : List Int) : Prop where
  vals : (GS.at none rs).vals 9 = cs ++ ag
  ok : (GS.at none rs).step ≠ .err
theorem seven_any {P : List Int → List Int → Prop} {cs ls : List Int} (S : Seven cs ls) (h1 : P [1, 1, 1, 1, 1] [5]) (h2 : P [2, 1, 1, 1] [4, 1]) (h3 : P [3, 1, 1] [3, 1, 1]) (h4 : P [2, 2, 1] [3, 2]) (h5 : P [4, 1] [2, 1, 1, 1]) (h6 : P [3, 2] [2, 2, 1]) (h7 : P [5] [1, 1, 1, 1, 1]) : P cs ls := by
  rcases S.it with ⟨rfl, rfl⟩ | ⟨rfl, rfl⟩ | ⟨rfl, rfl⟩ | ⟨rfl, rfl⟩ | ⟨rfl, rfl⟩ | ⟨rfl, rfl⟩ | ⟨rfl, rfl⟩ <;> assumption
theorem row_ok {cs rs ag : List Int} (h : ((GS.at none rs).vals 9 == cs ++ ag) = true) (h2 : (match (GS.at none rs).step with | .err => true | _ => false) = false) : RowP cs rs ag :=
  ⟨eq_of_beq h, fun e => by rw [e] at h2; cases h2⟩
noncomputable abbrev idxL (cs : List Int) : Nat := cs.idxOf (cs.getLastD 0)
theorem row_0 {cs ls : List Int} (S : Seven cs ls) : RowP cs (cs.take (((idxL cs : Nat) : Int) + 1).toNat ++ [0, 5]) (List.replicate (9 - (cs.length : Int)).toNat [cs.getLastD 0]).flatten :=
  seven_any S (P := fun cs _ => RowP cs (cs.take (((idxL cs : Nat) : Int) + 1).toNat ++ [0, 5]) (List.replicate (9 - (cs.length : Int)).toNat [cs.getLastD 0]).flatten)
    (row_ok (by decide +kernel) (by decide +kernel)) (row_ok (by decide +kernel) (by decide +kernel)) (row_ok (by decide +kernel) (by decide +kernel)) (row_ok (by decide +kernel) (by decide +kernel))
    (row_ok (by decide +kernel) (by decide +kernel)) (row_ok (by decide +kernel) (by decide +kernel)) (row_ok (by decide +kernel) (by decide +kernel))
theorem row_1 {cs ls : List Int} (S : Seven cs ls) : RowP cs (cs ++ [127, 2]) [] :=
  seven_any S (P := fun cs _ => RowP cs (cs ++ [127, 2]) [])
    (row_ok (by decide +kernel) (by decide +kernel)) (row_ok (by decide +kernel) (by decide +kernel)) (row_ok (by decide +kernel) (by decide +kernel)) (row_ok (by decide +kernel) (by decide +kernel))
    (row_ok (by decide +kernel) (by decide +kernel)) (row_ok (by decide +kernel) (by decide +kernel)) (row_ok (by decide +kernel) (by decide +kernel))
theorem row_2 {cs ls : List Int} (S : Seven cs ls) : RowP cs cs [] :=
  seven_any S (P := fun cs _ => RowP cs cs [])
    (row_ok (by decide +kernel) (by decide +kernel)) (row_ok (by decide +kernel) (by decide +kernel)) (row_ok (by decide +kernel) (by decide +kernel)) (row_ok (by decide +kernel) (by decide +kernel))
    (row_ok (by decide +kernel) (by decide +kernel)) (row_ok (by decide +kernel) (by decide +kernel)) (row_ok (by decide +kernel) (by decide +kernel))
noncomputable def gtG (k : Int) (l : List Int) (a : Int) : List Int := if a > k then l ++ [a] else l
noncomputable def gtL (cs : List Int) (k : Int) : List Int := cs.foldl (gtG k) []
noncomputable def colsL (cs : List Int) : List Int := (rangeKs 0 5).map fun k => ((gtL cs k).length : Int)
theorem cols_ok {cs ls : List Int} (S : Seven cs ls) : posL (colsL cs) = ls :=
  seven_any S (P := fun cs ls => posL (colsL cs) = ls) (by decide +kernel) (by decide +kernel) (by decide +kernel) (by decide +kernel) (by decide +kernel) (by decide +kernel) (by decide +kernel)
structure SevenF (cs : List Int) : Prop where
  pos : 0 < cs.length
  le : cs.length ≤ 5
  mem : cs.getLastD 0 ∈ cs
  lay : PyData.layable0 (.list (cs.map .int)) = true
  idx : idxL cs < cs.length
  small : ∀ x ∈ cs, 0 ≤ x ∧ x ≤ 5
theorem seven_facts {cs ls : List Int} (S : Seven cs ls) : SevenF cs :=
  seven_any S (P := fun cs _ => SevenF cs)
    ⟨by decide, by decide, by decide, by decide +kernel, by decide, by decide⟩ ⟨by decide, by decide, by decide, by decide +kernel, by decide, by decide⟩
    ⟨by decide, by decide, by decide, by decide +kernel, by decide, by decide⟩ ⟨by decide, by decide, by decide, by decide +kernel, by decide, by decide⟩
    ⟨by decide, by decide, by decide, by decide +kernel, by decide, by decide⟩ ⟨by decide, by decide, by decide, by decide +kernel, by decide, by decide⟩
    ⟨by decide, by decide, by decide, by decide +kernel, by decide, by decide⟩
theorem seven_ls {cs ls : List Int} (S : Seven cs ls) : 0 < ls.length ∧ ls.length ≤ 5 ∧ ls ≠ [] :=
  seven_any S (P := fun _ ls => 0 < ls.length ∧ ls.length ≤ 5 ∧ ls ≠ []) (by decide) (by decide) (by decide) (by decide) (by decide) (by decide) (by decide)
section
variable {M : Model} {A : Around} {E : Value → Shared → Prop} {s : Shared} {env : Env} {Q : Flow → Shared → Prop} {g : Heap} {L : Addr} {m : Str → Option Value} {news : List (Addr × Obj)}
/-- a cut behind which the ledger may hold other lists -/
noncomputable def CutN {σ : Type} (g : Heap) (L : Addr) (s : Shared) (nw : σ → List (Addr × Obj)) (ps : σ → List (Str × Value)) (P : σ → Prop) (s' : Shared) : Prop :=
  ∃ (c : σ) (h : Heap) (tk : Nat) (m' : Str → Option Value), s' = { s with heap := h, toks := tk } ∧ Fr g L h m' ∧ News g L h (nw c) ∧ (∀ p ∈ ps c, m' p.1 = some p.2) ∧ P c
theorem CutN.intro {σ : Type} {nw : σ → List (Addr × Obj)} {ps : σ → List (Str × Value)} {P : σ → Prop} (c : σ) {h : Heap} {tk : Nat} {m' : Str → Option Value} {news' : List (Addr × Obj)}
    (F : Fr g L h m') (N : News g L h news') (hs : ∀ p ∈ nw c, p ∈ news') (hk : ∀ p ∈ ps c, m' p.1 = some p.2) (hp : P c) : CutN g L s nw ps P { s with heap := h, toks := tk } :=
  ⟨c, h, tk, m', rfl, F, fun p hp => N p (hs p hp), hk, hp⟩
noncomputable def CutNP {σ : Type} (g : Heap) (L : Addr) (s : Shared) (nw : σ → List (Addr × Obj)) (ps : σ → List (Str × Value)) (P : σ → Prop) (Q : Flow → Shared → Prop) (f : Flow) (s' : Shared) : Prop :=
  match f with
  | .next => CutN g L s nw ps P s'
  | f' => Q f' s'
theorem cutn_split {σ : Type} {l1 l2 : List Stmt} (nw : σ → List (Addr × Obj)) (ps : σ → List (Str × Value)) (P : σ → Prop)
    (h1 : wpAny M A (execs l1 env) (CutNP g L s nw ps P Q) E s)
    (h2 : ∀ (c : σ) (h : Heap) (tk : Nat) (m' : Str → Option Value), P c → Fr g L h (kstB m' (ps c)) → News g L h (nw c) → wpAny M A (execs l2 env) Q E { s with heap := h, toks := tk }) :
    wpAny M A (execs (l1 ++ l2) env) Q E s := by
  intro Γ p hΓ
  refine execs_split_wp hΓ l1 p s (Sem.wp_mono M Γ _ (fun f p' s' q => ?_) (fun _ _ _ q => q) p s (h1 Γ p hΓ))
  cases f with
  | next =>
    obtain ⟨c, h, tk, m', rfl, F', N', hk, hp⟩ := q
    exact h2 c h tk m' hp (fr_names F' hk) N'
  | brk => exact q
  | cont => exact q
  | ret v => exact q
theorem cutn_four {σ : Type} {s1 s2 s3 s4 : Stmt} {l2 : List Stmt} (_F : Fr g L s.heap m) (_N : News g L s.heap news) (nw : σ → List (Addr × Obj)) (ps : σ → List (Str × Value)) (P : σ → Prop)
    (h1 : wpAny M A (execs [s1, s2, s3, s4] env) (CutNP g L s nw ps P Q) E s)
    (h2 : ∀ (c : σ) (h : Heap) (tk : Nat) (m' : Str → Option Value), P c → Fr g L h (kstB m' (ps c)) → News g L h (nw c) → wpAny M A (execs l2 env) Q E { s with heap := h, toks := tk }) :
    wpAny M A (execs (s1 :: s2 :: s3 :: s4 :: l2) env) Q E s := cutn_split (l1 := [s1, s2, s3, s4]) nw ps P h1 h2
/-- what is told of the row and of what comes again -/
structure TSig where
  dr : Addr
  da : Addr
  vr : List Value
  va : List Value
  cr : Nat
  ca : Nat
  rs : List Int
  ag : List Int
noncomputable abbrev TSig.led (base : List (Addr × Obj)) (c : TSig) : List (Addr × Obj) := (c.dr, listOf c.vr.toArray c.cr) :: (c.da, listOf c.va.toArray c.ca) :: base
noncomputable abbrev TSig.nms (la : Addr) (c : TSig) : List (Str × Value) := [(Str.ofString "layers", .ref la), (Str.ofString "row", .ref c.dr), (Str.ofString "again", .ref c.da)]
structure TSig.Ok (cs : List Int) (c4 : Addr) (c : TSig) : Prop where
  row : IntsAre c.vr c.rs
  again : IntsAre c.va c.ag
  tell : RowP cs c.rs c.ag
  ne1 : @Ne Nat c4 c.dr
  ne2 : @Ne Nat c4 c.da
  len : c.rs.length ≤ 9
theorem tail_cut {s1 s2 s3 s4 : Stmt} {l2 : List Stmt} {b2 b4 : Addr × Obj} {cs : List Int} {c4 la : Addr} {ol o4 : Obj} (F : Fr g L s.heap m) (N : News g L s.heap [(la, ol), b2, (c4, o4), b4])
    (h1 : wpAny M A (execs [s1, s2, s3, s4] env) (CutNP g L s (TSig.led [(la, ol), b2, (c4, o4), b4]) (TSig.nms la) (TSig.Ok cs c4) Q) E s)
    (h2 : ∀ (c : TSig) (h : Heap) (tk : Nat) (m' : Str → Option Value), c.Ok cs c4 → Fr g L h (kstB m' (c.nms la)) → News g L h (c.led [(la, ol), b2, (c4, o4), b4]) → wpAny M A (execs l2 env) Q E { s with heap := h, toks := tk }) :
    wpAny M A (execs (s1 :: s2 :: s3 :: s4 :: l2) env) Q E s := cutn_four F N _ _ _ h1 h2
theorem tail_end {base news' : List (Addr × Obj)} {cs : List Int} {c4 la dr da : Addr} {vr va : List Value} {cr ca : Nat} {rs ag : List Int} {h : Heap} {tk : Nat} {m' : Str → Option Value} (F : Fr g L h m')
    (hr : m' (Str.ofString "row") = some (.ref dr)) (ha : m' (Str.ofString "again") = some (.ref da)) (hl : m' (Str.ofString "layers") = some (.ref la)) (N : News g L h news')
    (hdr : (dr, listOf vr.toArray cr) ∈ news') (hda : (da, listOf va.toArray ca) ∈ news') (hb : ∀ p ∈ base, p ∈ news') (ir : IntsAre vr rs) (ia : IntsAre va ag) (hp : RowP cs rs ag)
    {o4 : Obj} {v4 : Option Value} (h4 : (c4, o4) ∈ base) (hc4 : o4.data = .cell v4) (hn : rs.length ≤ 9) : CutN g L s (TSig.led base) (TSig.nms la) (TSig.Ok cs c4) { s with heap := h, toks := tk } := by
  have nc : ∀ {d : Addr} {v : List Value} {c : Nat}, (d, listOf v.toArray c) ∈ news' → @Ne Nat c4 d := fun hm q => by
    have z1 := (N _ hm).1
    have z2 := (N _ (hb _ h4)).1
    rw [show c4 = _ from q] at z2
    rw [z1] at z2
    have z3 := congrArg Obj.data (Option.some.inj z2)
    rw [hc4] at z3
    cases z3
  have n1 := nc hdr
  have n2 := nc hda
  refine CutN.intro ⟨dr, da, vr, va, cr, ca, rs, ag⟩ F N (fun p hp => ?_) (fun p hp => ?_) ⟨ir, ia, hp, n1, n2, hn⟩
  · rcases List.mem_cons.mp hp with rfl | hp
    · exact hdr
    · rcases List.mem_cons.mp hp with rfl | hp
      · exact hda
      · exact hb _ hp
  · simp only [TSig.nms, List.mem_cons, List.not_mem_nil, or_false] at hp
    rcases hp with rfl | rfl | rfl
    · exact hl
    · exact hr
    · exact ha
end
end Mine
end
section
open PySem PySem.W PyProof.Rows PySem.Calls PyProof.Rows.LCg
set_option maxRecDepth 100000
namespace Mine
theorem four_ne {I D C K : Nat} (h1 : D = I + 1) (h2 : C = I + 2) (h3 : K = I + 3) : I ≠ C ∧ I ≠ D ∧ I ≠ K ∧ C ≠ D ∧ C ≠ K ∧ D ≠ K := by
  subst h1 h2 h3
  exact ⟨Nat.ne_of_lt (Nat.lt_add_of_pos_right (by decide)), Nat.ne_of_lt (Nat.lt_succ_self _), Nat.ne_of_lt (Nat.lt_add_of_pos_right (by decide)), Nat.ne_of_gt (Nat.lt_succ_self _), Nat.ne_of_lt (Nat.lt_succ_self _), Nat.ne_of_lt (Nat.add_lt_add_left (by decide) I)⟩
theorem four_off {I D C K x : Nat} (h : x < I) (h1 : D = I + 1) (h2 : C = I + 2) (h3 : K = I + 3) : x ≠ I ∧ x ≠ D ∧ x ≠ C ∧ x ≠ K := by
  subst h1 h2 h3
  exact ⟨Nat.ne_of_lt h, Nat.ne_of_lt (Nat.lt_add_right _ h), Nat.ne_of_lt (Nat.lt_add_right _ h), Nat.ne_of_lt (Nat.lt_add_right _ h)⟩
/-- the end of a turn: an int, the ledger as it was -/
noncomputable def ColEnd (h₀ : Heap) (L : Addr) (m : Str → Option Value) (s : Shared) (led : List (Addr × Obj)) (x : Int) (v : Value) (s' : Shared) : Prop :=
  ∃ h tk t, v = .int x t ∧ s' = { s with heap := h, toks := tk } ∧ Fr h₀ L h m ∧ News h₀ L h led
section
variable {prog : Program} {w : World} {A : Around} {E : Value → Shared → Prop} {s : Shared} {h₀ : Heap} {L : Addr} {m : Str → Option Value} {env : Env}
theorem ColEnd.intro {led led' : List (Addr × Obj)} {x x' : Int} {t : Tok} {h : Heap} {tk : Nat} (F : Fr h₀ L h m) (N : News h₀ L h led') (hs : ∀ p ∈ led, p ∈ led') (e : x' = x) : ColEnd h₀ L m s led x (.int x' t) { s with heap := h, toks := tk } :=
  ⟨h, tk, t, by rw [e], rfl, F, fun p hp => N p (hs p hp)⟩
theorem env_cell {scope : Scope} {g : Addr} {cl : List (Str × Addr)} {qual : Str} {k : Str} {Q : Env → Shared → Prop} (hc : ∀ n acc, cellsFrom n scope.names acc = (k, n) :: acc)
    (hp : ∀ h, pushCells h scope.names = h.push { cls := .type "cell", data := .cell none })
    (hQ : Q { scope := scope, locals := s.heap.objs.size, globals := g, cells := (k, (s.heap.push { cls := .type "dict", data := .dict #[] }).objs.size) :: cl, qual := qual, func := none, code := env.code, frame := env.frame, builtins := env.builtins }
      { s with heap := (s.heap.push { cls := .type "dict", data := .dict #[] }).push { cls := .type "cell", data := .cell none } }) :
    wpAny (model prog w) A (newFunctionEnv scope g cl [] qual none .none (some env)) Q E s := by
  simp only [newFunctionEnv, Option.isSome_some, if_true]
  refine wpAny_bind (wpAny_alloc ?_)
  refine wpAny_bind (wpAny_layCells _ (fun name kind cells => by cases hkc : kind == NameKind.cell <;> simp [hkc]) _ _ _ _ ?_)
  rw [hc, hp]
  exact wpAny_pure hQ
/-- a range of five, just made -/
noncomputable def RgSrc (h₀ : Heap) (L : Addr) (m : Str → Option Value) (news : List (Addr × Obj)) (s : Shared) (xv : Value) (s₁ : Shared) : Prop :=
  ∃ r t u v h tk, xv = .ref r ∧ IsRange h r 0 5 1 t u v ∧ s₁ = { s with heap := h, toks := tk } ∧ Fr h₀ L h m ∧ News h₀ L h news
theorem RgSrc.intro {news : List (Addr × Obj)} {r : Addr} {t u v : Tok} {h : Heap} {tk : Nat} (hr : IsRange h r 0 5 1 t u v) (F : Fr h₀ L h m) (N : News h₀ L h news) : RgSrc h₀ L m news s (.ref r) { s with heap := h, toks := tk } :=
  ⟨r, t, u, v, h, tk, rfl, hr, rfl, F, N⟩
noncomputable def itObj (i : Nat) : Obj := { cls := .type "range_iterator", data := .fields #[rawInt i, rawInt (5 - i), rawInt 1] }
theorem cols_assign {elt iter : Expr} {y k : Str} {py pk : Pos} {scope : Scope} {cl : List (Str × Addr)} {pos spos : Pos} {Q : Flow → Shared → Prop} {news : List (Addr × Obj)} (f : Int → Int) (hLe : env.locals = L) (hh : A.handled = none)
    (_F : Fr h₀ L s.heap m) (_N : News h₀ L s.heap news)
    (hsw : swapsWith (.ListComp elt [⟨.Name k pk, iter, [], 0⟩] scope pos) (some (.Name y py)) spos.line env = pure true)
    (hclos : closureFor scope env = pure cl) (hkind : scope.kind = .function) (hcc : ∀ n acc, cellsFrom n scope.names acc = (k, n) :: acc)
    (hpp : ∀ h, pushCells h scope.names = h.push { cls := .type "cell", data := .cell none }) (hkc : ∀ c C, (compEnvC scope ((k, c) :: cl) C env).kindOf k = some .cell)
    (hnames : ∀ z ∈ scope.names, z.2 = .local → scope.names.lookup z.1 = some .local)
    (hy : env.kindOf y = some .local) (hp : (env.scope.kind == .class || (env.scope.kind == .module && env.locals != env.globals)) = false)
    (hev : wpAny (model prog w) A (eval iter env) (RgSrc h₀ L m news s) E s)
    (turn : ∀ (i : Nat) C oC I D kc okc t ys h tk (E' : Value → Shared → Prop), i < 5 → okc.data = .cell (some (.int (i : Int) t)) → Fr h₀ L h m → News h₀ L h ((kc, okc) :: (I, itObj (i + 1)) :: (C, oC) :: (D, lst ys) :: news) →
      wpAny (model prog w) A (eval elt (compEnvC scope ((k, kc) :: cl) C env)) (ColEnd h₀ L m { s with heap := h, toks := tk } ((kc, okc) :: (I, itObj (i + 1)) :: (C, oC) :: (D, lst ys) :: news) (f i)) E' { s with heap := h, toks := tk })
    (fin : ∀ D ys h' tk, IntsAre ys ((rangeKs 0 5).map f) → Fr h₀ L h' (fun z => if z = y then some (.ref D) else m z) → News h₀ L h' ((D, lst ys) :: news) → Q .next { s with heap := h', toks := tk })
    (hs : ∀ x, foldedSetIterable iter env x = pure x := by intro _; rfl) :
    wpAny (model prog w) A (exec (.Assign [.Name y py] (.ListComp elt [⟨.Name k pk, iter, [], 0⟩] scope pos) spos) env) Q E s := by
  subst hLe
  rw [exec_Assign_Name_used _ _ _ _ hsw]
  refine wpAny_bind (wpAny_standAt (wpAny_bind ?_))
  show wpAny _ A (do let _ ← comprehension (.ListComp elt [⟨.Name k pk, iter, [], 0⟩] scope pos) scope env _ (newList []) false (eval iter env) (some (assign (.Name y py) env))) _ _ s
  refine wpAny_bind (wpAny_mono (wpAny_comprehension_free (use := some (assign (.Name y py) env)) (Q := fun _ s' => Q .next s') rfl hs hclos hkind hnames
    (wpAny_mono hev (fun xv s₁ h₁ => ?_) fun _ _ e => e)) (fun _ s' hq => wpAny_pure (wpAny_pure hq)) fun _ _ e => e)
  obtain ⟨r, t, u, v, h1, tk1, rfl, hr, rfl, F1, N1⟩ := h₁
  refine wpAny_pyIter_range (s := { s with heap := h1, toks := tk1 }) hr (by rfl) ?_
  refine wpAny_newObj_type (env_cell hcc hpp ?_)
  dsimp only
  have e5 : Builtin.Range.rangeSize 0 5 1 = 5 := by rfl
  rw [e5]
  -- the heaps, one by one
  generalize hH2 : h1.push { cls := .type "range_iterator", data := .fields #[rawInt 0, rawInt 5, rawInt 1] } = H2
  generalize hH3 : H2.push { cls := .type "list", dict := none, data := .seq ([] : List Value).toArray } = H3
  generalize hH4 : H3.push { cls := .type "dict", data := .dict #[] } = H4
  generalize hH5 : H4.push { cls := .type "cell", data := .cell none } = H5
  have z2 : H2.objs.size = h1.objs.size + 1 := by rw [← hH2, Heap.size_push]
  have z3 : H3.objs.size = h1.objs.size + 2 := by rw [← hH3, Heap.size_push, z2]
  have z4 : H4.objs.size = h1.objs.size + 3 := by rw [← hH4, Heap.size_push, z3]
  have up : ∀ b o, h1.get? b = some o → H5.get? b = some o := fun b o e => hH5 ▸ Heap.get?_push_of_some _ (hH4 ▸ Heap.get?_push_of_some _ (hH3 ▸ Heap.get?_push_of_some _ (hH2 ▸ Heap.get?_push_of_some _ e)))
  have gI : H5.get? h1.objs.size = some (itObj 0) := hH5 ▸ Heap.get?_push_of_some _ (hH4 ▸ Heap.get?_push_of_some _ (hH3 ▸ Heap.get?_push_of_some _ (hH2 ▸ Heap.get?_push_size _ rfl)))
  have gD : H5.get? H2.objs.size = some (lst []) := hH5 ▸ Heap.get?_push_of_some _ (hH4 ▸ Heap.get?_push_of_some _ (hH3 ▸ Heap.get?_push_size _ rfl))
  have gC : H5.get? H3.objs.size = some { cls := .type "dict", data := .dict #[] } := hH5 ▸ Heap.get?_push_of_some _ (hH4 ▸ Heap.get?_push_size _ rfl)
  have gK : H5.get? H4.objs.size = some { cls := .type "cell", data := .cell none } := hH5 ▸ Heap.get?_push_size _ rfl
  have nsC : LCg.NsObj { cls := .type "dict", data := .dict #[] } (fun _ => none) := by
    have q : H4.Ns H3.objs.size (fun _ => none) := hH4 ▸ Heap.Ns.new H3 (.type "dict")
    obtain ⟨oC, heC, hoC⟩ := ns_obj q
    have : H4.get? H3.objs.size = some { cls := .type "dict", data := .dict #[] } := hH4 ▸ Heap.get?_push_size _ rfl
    rw [this] at heC
    cases heC
    exact hoC
  have F5 : Fr h₀ env.locals H5 m := F1.keeps up
  have hLlt : @LT.lt Nat _ env.locals h1.objs.size := F1.ns.lt
  have fresh : ∀ b, h1.objs.size ≤ b → b ≠ env.locals ∧ h₀.get? b = none := fun b hb => ⟨Nat.ne_of_gt (Nat.lt_of_lt_of_le hLlt hb), Heap.get?_none_of_le (Nat.le_trans F1.above (Nat.le_trans (Nat.le_of_lt hLlt) hb))⟩
  have ltN : ∀ p ∈ news, @LT.lt Nat _ p.1 h1.objs.size := fun p hp => Heap.lt_size (N1 p hp).1
  generalize hIe : h1.objs.size = I at *
  have fI := fresh I (Nat.le_refl _)
  have fD := fresh H2.objs.size (by rw [z2]; omega)
  have fC := fresh H3.objs.size (by rw [z3]; omega)
  have fK := fresh H4.objs.size (by rw [z4]; omega)
  generalize H2.objs.size = D at *
  generalize H3.objs.size = C at *
  generalize H4.objs.size = K at *
  have dIC : @Ne Nat I C ∧ @Ne Nat I D ∧ @Ne Nat I K ∧ @Ne Nat C D ∧ @Ne Nat C K ∧ @Ne Nat D K := four_ne (by assumption) (by assumption) (by assumption)
  obtain ⟨nIC, nID, nIK, nCD, nCK, nDK⟩ := dIC
  have offN : ∀ p ∈ news, @Ne Nat p.1 I ∧ @Ne Nat p.1 D ∧ @Ne Nat p.1 C ∧ @Ne Nat p.1 K := fun p hp => by
    exact four_off (ltN p hp) (by assumption) (by assumption) (by assumption)
  have N5 : News h₀ env.locals H5 ((K, { cls := .type "cell", data := .cell none }) :: (I, itObj 0) :: (C, { cls := .type "dict", data := .dict #[] }) :: (D, lst []) :: news) := fun p hp => by
    simp only [List.mem_cons] at hp
    rcases hp with rfl | rfl | rfl | rfl | hp
    · exact ⟨gK, fK⟩
    · exact ⟨gI, fI⟩
    · exact ⟨gC, fC⟩
    · exact ⟨gD, fD⟩
    · exact ⟨up _ _ (N1 p hp).1, (N1 p hp).2⟩
  -- the loop
  have loop : ∀ s₃ : Shared, s₃ = { s with heap := H5, toks := tk1 } →
      codeAny (model prog w) A (.compLoop (.ListComp elt [⟨.Name k pk, iter, [], 0⟩] scope pos) 0 (.ref I) (.ref D) (compEnvC scope ((k, K) :: cl) C env))
        (compPost (model prog w) A E (some (assign (.Name y py) env)) (fun _ s' => Q .next s') (.ref D) C) s₃ := by
    rintro s₃ rfl
    refine kcp_loop
      (fun n s' => ∃ i : Nat, ∃ ys okc h tk, i ≤ 5 ∧ n = 5 + 1 - i ∧ IntsAre ys ((rangeKs 0 i).map f) ∧ s' = { s with heap := h, toks := tk } ∧ (∃ v, okc.data = .cell v) ∧ Fr h₀ env.locals h m ∧
        News h₀ env.locals h ((K, okc) :: (I, itObj i) :: (C, { cls := .type "dict", data := .dict #[] }) :: (D, lst ys) :: news)) ?_ (5 + 1)
      ⟨0, [], _, H5, tk1, Nat.zero_le _, rfl, .nil, rfl, ⟨_, rfl⟩, F5, N5⟩
    rintro n s' ⟨i, ys, okc, h, tk, hi, rfl, hys, rfl, ⟨vk, hvk⟩, F, N⟩
    have hit : IsRangeIter h I i (5 - i) 1 := (N (I, itObj i) (.tail _ (.head _))).1
    have hylen : ys.length = i := by rw [hys.length, List.length_map, rangeKs_length]
    by_cases hlt : i < 5
    · refine wpAny_pyNext_range_item (s := { s with heap := h, toks := tk }) hit (by omega) fun h₂ hr₂ hs₂ => ?_
      refine wpAny_of_eq (a := ()) (by rfl) ?_
      have gK₂ : h₂.get? K = some okc := hs₂.extBut _ _ (Ne.symm nIK) (N (K, okc) (.head _)).1
      refine wpAny_assign_Name (wpAny_storeName_cell (s := { s with heap := h₂, toks := tk + 1 }) (by simp [compEnvC, relabel, hkind]) (hkc K C) (by simp [compEnvC, List.lookup_cons]) (v₀ := vk) ⟨okc, gK₂, hvk⟩ fun h₃ hc₃ hs₃ => ?_)
      obtain ⟨ok₃, gK₃, hd₃⟩ := hc₃
      have up₃ : ∀ b o, @Ne Nat b I → @Ne Nat b K → h.get? b = some o → h₃.get? b = some o := fun b o b1 b2 e => hs₃.extBut b o b2 (hs₂.extBut b o b1 e)
      have gI₃ : h₃.get? I = some (itObj (i + 1)) := hs₃.extBut _ _ nIK (by
        have e1 : ((i + 1 : Nat) : Int) = (i : Int) + 1 := by omega
        have e2 : (5 : Int) - ((i + 1 : Nat) : Int) = (5 : Int) - i - 1 := by omega
        have z : h₂.get? I = some { cls := .type "range_iterator", data := .fields #[rawInt ((i : Int) + 1), rawInt ((5 : Int) - i - 1), rawInt 1] } := hr₂
        rw [itObj, e2, e1]
        exact z)
      have F₃ : Fr h₀ env.locals h₃ m := ⟨F.ns.at' fun o e => up₃ _ o (Ne.symm fI.1) (Ne.symm fK.1) e, fun b o e => up₃ b o (fun q => by rw [q, fI.2] at e; cases e) (fun q => by rw [q, fK.2] at e; cases e) (F.keep b o e), F.above⟩
      have N₃ : News h₀ env.locals h₃ ((K, ok₃) :: (I, itObj (i + 1)) :: (C, { cls := .type "dict", data := .dict #[] }) :: (D, lst ys) :: news) := fun p hp => by
        simp only [List.mem_cons] at hp
        rcases hp with rfl | rfl | rfl | rfl | hp
        · exact ⟨gK₃, fK⟩
        · exact ⟨gI₃, fI⟩
        · exact ⟨up₃ _ _ (Ne.symm nIC) nCK (N (C, _) (.tail _ (.tail _ (.head _)))).1, fC⟩
        · exact ⟨up₃ _ _ (Ne.symm nID) nDK (N (D, _) (.tail _ (.tail _ (.tail _ (.head _))))).1, fD⟩
        · exact ⟨up₃ _ _ (offN p hp).1 (offN p hp).2.2.2 (N p (.tail _ (.tail _ (.tail _ (.tail _ hp))))).1, (N p (.tail _ (.tail _ (.tail _ (.tail _ hp))))).2⟩
      refine wpAny_mono (turn i C _ I D K ok₃ _ ys h₃ _ _ hlt hd₃ F₃ N₃) (fun x s₄ h₄ => ?_) fun _ _ e => e
      obtain ⟨h₄, tk₄, t₄, rfl, rfl, F₄, N₄⟩ := h₄
      have zD := (N₄ (D, lst ys) (.tail _ (.tail _ (.tail _ (.head _))))).1
      refine append_at (s := { s with heap := h₄, toks := tk₄ }) (hsz := by show ys.toArray.size ≤ sizeLine; rw [List.size_toArray, hylen, sizeLine_eq]; omega) zD fun h₆ hs₆ hD₆ => ?_
      refine ⟨5 + 1 - (i + 1), by omega, i + 1, ys ++ [.int (f i) t₄], ok₃, h₆, tk₄, hlt, rfl, ?_, rfl, ⟨_, hd₃⟩, F₄.change hs₆ fD.1 fD.2, fun p hp => ?_⟩
      · have e : rangeKs 0 (i + 1) = rangeKs 0 i ++ [(i : Int)] := by
          unfold rangeKs
          rw [List.range_succ, List.map_append]
          simp
        rw [e, List.map_append]
        exact hys.append (.cons _ _ .nil)
      · simp only [List.mem_cons] at hp
        rcases hp with rfl | rfl | rfl | rfl | hp
        · exact ⟨hs₆.extBut _ _ (Ne.symm nDK) (N₄ (K, ok₃) (.head _)).1, fK⟩
        · exact ⟨hs₆.extBut _ _ nID (N₄ (I, _) (.tail _ (.head _))).1, fI⟩
        · exact ⟨hs₆.extBut _ _ nCD (N₄ (C, _) (.tail _ (.tail _ (.head _)))).1, fC⟩
        · exact ⟨hD₆.trans (congrArg some (lst_snoc ys _)), fD⟩
        · exact ⟨hs₆.extBut _ _ (offN p hp).2.1 (N₄ p (.tail _ (.tail _ (.tail _ (.tail _ hp))))).1, (N₄ p (.tail _ (.tail _ (.tail _ (.tail _ hp))))).2⟩
    · have hie : i = 5 := by omega
      subst hie
      refine wpAny_pyNext_range_end (s := { s with heap := h, toks := tk }) hh hit (by omega) fun h₂ hx₂ => ?_
      have gC₂ : h₂.get? C = some { cls := .type "dict", data := .dict #[] } := hx₂ _ _ (Ne.symm nIC) (N (C, _) (.tail _ (.tail _ (.head _)))).1
      have gD₂ : h₂.get? D = some (lst ys) := hx₂ _ _ (Ne.symm nID) (N (D, _) (.tail _ (.tail _ (.tail _ (.head _))))).1
      have F₂ : Fr h₀ env.locals h₂ m := ⟨F.ns.at' fun o e => hx₂ _ o (Ne.symm fI.1) e, fun b o e => hx₂ b o (fun q => by rw [q, fI.2] at e; cases e) (F.keep b o e), F.above⟩
      show wpAny _ A (assign (.Name y py) env (.ref D)) _ _ _
      refine wpAny_assign_Name (wpAny_storeName_local hy F₂.ns (fun h₃ hn₃ hs₃ => ?_) hp)
      have nCL : C ≠ env.locals := fC.1
      have hL₀ : h₀.get? env.locals = none := Heap.get?_none_of_le F₂.above
      have F₃ : Fr h₀ env.locals h₃ (fun z => if z = y then some (.ref D) else m z) := ⟨hn₃, fun b o e => hs₃.extBut b o (fun q => by rw [q, hL₀] at e; cases e) (F₂.keep b o e), F₂.above⟩
      refine ⟨_, nsC.ns (hs₃.extBut _ _ nCL gC₂), fun h'' hs'' => fin D ys h'' _ hys (F₃.change hs'' fC.1 fC.2) fun p hp => ?_⟩
      rcases List.mem_cons.mp hp with rfl | hp
      · exact ⟨hs''.extBut _ _ (Ne.symm nCD) (hs₃.extBut _ _ fD.1 gD₂), fD⟩
      · have hp' := N p (.tail _ (.tail _ (.tail _ (.tail _ hp))))
        exact ⟨hs''.extBut _ _ (offN p hp).2.2.1 (hs₃.extBut _ _ hp'.2.1 (hx₂ _ _ (offN p hp).1 hp'.1)), hp'.2⟩
  exact codeAny_compStart_list (loop _ rfl) (wpAny_pyIter_rangeiter (s := { s with heap := H5, toks := tk1 }) (it := I) gI (loop _ rfl))
theorem gtG_grows (k : Int) : KPfGrows (gtG k) := by
  intro l a
  unfold gtG
  split
  · simp
  · exact Nat.le_succ _
theorem gt_len (k : Int) : ∀ (cs l : List Int), (cs.foldl (gtG k) l).length ≤ l.length + cs.length
  | [], l => Nat.le_refl _
  | a :: cs, l => by
    rw [List.foldl_cons]
    have h1 := gt_len k cs (gtG k l a)
    have h2 : (gtG k l a).length ≤ l.length + 1 := by
      unfold gtG
      split
      · simp
      · omega
    rw [List.length_cons]
    omega
theorem len_lst {D : Addr} {ys : List Value} {ns : List Int} {news : List (Addr × Obj)} {Q : Value → Shared → Prop} (N : News h₀ L s.heap news) (hm : (D, lst ys) ∈ news) (hi : IntsAre ys ns) (hn : ns.length ≤ 9)
    (h : Q (.int (ns.length : Nat) (s.toks + 1)) { s with toks := s.toks + 1 + 1 }) : wpAny (model prog w) A (call (.builtin "len") [.ref D]) Q E s :=
  KM.len_K (its := ys.toArray) (c := ys.length) (n := ns.length) N hm (by rw [List.size_toArray, hi.length]) (by omega) h
theorem gt_yes {l : List Int} {a k : Int} (h : a > k) : gtG k l a = l ++ [a] := if_pos h
theorem gt_no {l : List Int} {a k : Int} (h : ¬ a > k) : gtG k l a = l := if_neg h
end
end Mine
end
section
open PySem PySem.W PyProof.Rows PySem.Calls PyProof.Rows.LCg
set_option maxRecDepth 100000
namespace Mine
/-- an exception on its way: its trace is told, the frames of l are there -/
noncomputable def Fly (B : Heap) (l : List Env) (e t : Addr) (h : Heap) : Prop :=
  B.StaysIn h ∧ B.get? e = none ∧ h.FunFrames B l ∧ ∃ fl, h.TracedAtW B e (.type "ValueError") (.ref t) fl
section
variable {M : Model} {A : Around} {E : Value → Shared → Prop} {s : Shared} {B : Heap} {l outer : List Env} {e t L : Addr} {env env' : Env}
theorem Fly.tail {h : Heap} (x : Fly B (env :: l) e t h) : Fly B l e t h := ⟨x.1, x.2.1, x.2.2.1.2.2, x.2.2.2⟩
theorem Fly.there {h : Heap} (x : Fly B l e t h) : ∃ ob, h.get? e = some ob ∧ ob.cls = .type "ValueError" := by
  obtain ⟨_, _, _, fl, ht⟩ := x
  exact ht.there
/-- a step that changes one thing the exception does not lean on -/
theorem Fly.change {h h' : Heap} {z : Addr} {oz : Obj} (x : Fly B l e t h) (hz : B.get? z = some oz) (hs : ∀ b o, b ≠ z → h.get? b = some o → h'.get? b = some o) : Fly (hideAll B [z]) l e t h' := by
  obtain ⟨k1, k2, k3, fl, oe, vs, T, oT, ts, he, hc, hd, h1, hnT, hTe, hT, hdT, h3⟩ := x
  have sub : ∀ b o, (hideAll B [z]).get? b = some o → B.get? b = some o := fun b o q => of_hideAll _ q
  have no : ∀ b, B.get? b = none → (hideAll B [z]).get? b = none := fun b q => by
    cases r : (hideAll B [z]).get? b with
    | none => rfl
    | some o => rw [sub _ _ r] at q; cases q
  have nz : ∀ b, B.get? b = none → b ≠ z := fun b q r => by rw [r, hz] at q; cases q
  refine ⟨fun b o q => ?_, no _ k2, ?_, fl, oe, vs, T, oT, ts, hs _ _ (nz _ k2) he, hc, hd, h1, no _ hnT, hTe, hs _ _ (nz _ hnT) hT, hdT, h3⟩
  · have hb : b ≠ z := fun r => by
      have := hideAll_none (h := B) (l := [z]) (b := b) (by simp [r])
      rw [this] at q; cases q
    exact hs _ _ hb (k1 _ _ (sub _ _ q))
  · clear he hc hd h1 hnT hTe hT hdT h3
    induction l with
    | nil => trivial
    | cons env rest ih =>
      obtain ⟨a1, ⟨L', o, hf, hn, ho, hdd⟩, a3⟩ := k3
      exact ⟨a1, ⟨L', o, hf, no _ hn, hs _ _ (nz _ hn) ho, hdd⟩, ih a3⟩
theorem fly_first {h : Heap} {args : List Value} {Q : Unit → Shared → Prop} (hfr : A.frames = some (env :: outer)) (hl : h.FunFrames B (env :: outer)) (hf : env.frame = some L) (hkb : B.StaysIn h) (hx : Heap.MadeExcOf h s.heap e (.type "ValueError") args)
    (hQ : ∀ h' t, Fly B (env :: outer) e t h' → h'.TupAt t args → B.get? t = none → s.heap.UpToSlots h' → Q () { s with heap := h' }) : wpAny M A (noteFrame (.ref e) env) Q E s := by
  obtain ⟨t, he, htn, ht⟩ := hx.there
  have fresh : ∀ b, h.get? b = none → B.get? b = none := fun b hb => by
    cases hq : B.get? b with
    | none => rfl
    | some o' => have := hkb b o' hq; rw [hb] at this; cases this
  unfold noteFrame
  simp only [hf]
  refine wpAny_bind (wpAny_field he rfl (x := .none) rfl ?_)
  rw [if_neg (by decide)]
  refine wpAny_entryW (a0 := .ref t) hfr (hl.of_keeps fun b o hb _ => ⟨o, hx.keeps b o hb, rfl⟩) hf he (fun b o hb => hx.keeps b o (hkb b o hb)) (fresh e hx.new) rfl (by simp) rfl fun h' hN => ?_
  obtain ⟨x1, x2, x3, x4⟩ := hN
  exact hQ h' t ⟨x1, fresh e hx.new, x2, _, x3⟩ (Heap.TupAt.of_slots ⟨_, _, ht, rfl, rfl⟩ x4) (fresh t htn) x4
theorem fly_note {Q : Unit → Shared → Prop} (hff : env'.frame = env.frame) (hfr : A.frames = some (env :: outer)) (hf : env.frame = some L) (hfl : Fly B (env :: outer) e t s.heap)
    (hQ : ∀ h', Fly B (env :: outer) e t h' → s.heap.UpToSlots h' → Q () { s with heap := h' }) : wpAny M A (noteFrame (.ref e) env') Q E s := by
  have e1 : noteFrame (.ref e) env' = noteFrame (.ref e) env := by unfold noteFrame PySem.frameOf; rw [hff]
  rw [e1]
  obtain ⟨k1, k2, k3, fl, oe, vs, T, oT, ts, he, ⟨hcls, h0⟩, hd, h1, hnT, hTe, hT, hdT, h3⟩ := hfl
  unfold noteFrame
  simp only [hf]
  refine wpAny_bind (wpAny_field he hd h1 ?_)
  rw [if_pos (show (Value.ref T != Value.none) = true from by simp)]
  refine wpAny_bind (wpAny_field hT hdT h3 ?_)
  by_cases hq : (fl == rawInt L) = true
  · rw [if_pos hq]
    exact wpAny_pure (hQ s.heap ⟨k1, k2, k3, fl, oe, vs, T, oT, ts, he, ⟨hcls, h0⟩, hd, h1, hnT, hTe, hT, hdT, h3⟩ (Heap.UpToSlots.refl _))
  · rw [if_neg hq]
    refine wpAny_bind (wpAny_setField hT hdT (Array.getElem?_eq_some_iff.mp h3).1 ?_)
    have other : ∀ b, b ≠ T → (s.heap.update T (Obj.mapFields (·.setIfInBounds 3 Value.none))).get? b = s.heap.get? b := fun b hb => Heap.get?_update_other _ _ (Ne.symm hb)
    have noRecord : ∀ b o, s.heap.get? b = some o → (∀ vs, o.data ≠ .fields vs) → b ≠ T := fun b o hb hnf q => by
      rw [q, hT] at hb; injection hb with hb; subst hb; exact hnf ts hdT
    refine wpAny_entryW hfr (k3.of_keeps fun b o hb hnf => ⟨o, (other b (noRecord b o hb hnf)).trans hb, rfl⟩) hf ((other e (Ne.symm hTe)).trans he)
      (fun b o hbo => (other b fun q => by rw [q, hnT] at hbo; cases hbo).trans (k1 b o hbo)) k2 hd (Array.getElem?_eq_some_iff.mp h1).1 h0
      fun h' hN => ?_
    obtain ⟨x1, x2, x3, x4⟩ := hN
    exact hQ h' ⟨x1, k2, x2, _, hcls ▸ x3⟩ fun b o hb hnf => x4 b o ((other b (noRecord b o hb hnf)).trans hb) hnf
theorem fly_field {Q : Value → Shared → Prop} (hfl : Fly B l e t s.heap) (hQ : ∀ T, Q (.ref T) s) : wpAny M A (field (.ref e) 1) Q E s := by
  obtain ⟨k1, k2, k3, fl, oe, vs, T, oT, ts, he, ⟨hcls, h0⟩, hd, h1, _⟩ := hfl
  exact wpAny_field he hd h1 (hQ T)
theorem fly_flight {fr : Option Addr} {Q : Unit → Shared → Prop} (hfl : Fly B l e t s.heap)
    (hQ : ∀ h', Fly B l e t h' → (fr = none → Heap.FlyingW B l e (.type "ValueError") (.ref t) h') → s.heap.UpToSlots h' → Q () { s with heap := h' }) : wpAny M A (setFlight (.ref e) fr) Q E s := by
  obtain ⟨k1, k2, k3, fl, oe, vs, T, oT, ts, he, ⟨hcls, h0⟩, hd, h1, hnT, hTe, hT, hdT, h3⟩ := hfl
  have hsz3 : 3 < ts.size := (Array.getElem?_eq_some_iff.mp h3).1
  have other : ∀ b, b ≠ T → (s.heap.update T (Obj.mapFields (·.setIfInBounds 3 (fr.elim .none fun f => rawInt f)))).get? b = s.heap.get? b := fun b hb => Heap.get?_update_other _ _ (Ne.symm hb)
  have noRecord : ∀ b o, s.heap.get? b = some o → (∀ vs, o.data ≠ .fields vs) → b ≠ T := fun b o hb hnf q => by
    rw [q, hT] at hb; injection hb with hb; subst hb; exact hnf ts hdT
  unfold setFlight
  refine wpAny_bind (wpAny_field he hd h1 ?_)
  rw [if_pos (show (Value.ref T != Value.none) = true from by simp)]
  have z1 : B.StaysIn (s.heap.update T (Obj.mapFields (·.setIfInBounds 3 (fr.elim .none fun f => rawInt f)))) := fun b o hbo => (other b fun q => by rw [q, hnT] at hbo; cases hbo).trans (k1 b o hbo)
  have z3 : (s.heap.update T (Obj.mapFields (·.setIfInBounds 3 (fr.elim .none fun f => rawInt f)))).FunFrames B l := k3.of_keeps fun b o hb hnf => ⟨o, (other b (noRecord b o hb hnf)).trans hb, rfl⟩
  have z4 : (s.heap.update T (Obj.mapFields (·.setIfInBounds 3 (fr.elim .none fun f => rawInt f)))).TracedAtW B e (.type "ValueError") (.ref t) (fr.elim .none fun f => rawInt f) :=
    ⟨oe, vs, T, _, _, (other e (Ne.symm hTe)).trans he, ⟨hcls, h0⟩, hd, h1, hnT, hTe, Heap.get?_update_self _ hT (Obj.isFreed_of_fields (Obj.data_mapFields hdT _)), Obj.data_mapFields hdT _, by simp [hsz3]⟩
  refine wpAny_setField hT hdT hsz3 (hQ _ ⟨z1, k2, z3, _, z4⟩ (fun q => ?_) fun b o hb hnf => ⟨o.slots, (other b (noRecord b o hb hnf)).trans hb⟩)
  subst q
  exact ⟨z1, k2, z3, z4⟩
theorem fly_leave {Q : Unit → Shared → Prop} (hfr : A.frames = some (env :: outer)) (hf : env.frame = some L) (hfl : Fly B (env :: outer) e t s.heap)
    (hQ : ∀ h', Fly B outer e t h' → s.heap.UpToSlots h' → Q () { s with heap := h' }) : wpAny M A (leaving env (.ref e)) Q E s := by
  unfold leaving
  refine wpAny_bind (fly_note rfl hfr hf hfl fun h₁ f₁ u₁ => ?_)
  exact fly_flight (s := { s with heap := h₁ }) f₁ fun h₂ f₂ _ u₂ => hQ h₂ f₂.tail (u₁.trans u₂)
end
end Mine
end
section
open PySem PySem.W PyProof.Rows PySem.Calls
open Sem (wp)
set_option maxRecDepth 100000
namespace Mine
/-- the words of the refusal -/
noncomputable abbrev badWords : Str := Str.ofString "invalid grouping"
/-- the end of a generator that raises -/
noncomputable def GErr (h₀ : Heap) (FL L : Addr) (lenv : Env) : GenEnd := fun _ s₀ r s₁ => ∃ e t B h tk t', r = .error (.ref e) ∧ s₁ = { s₀ with heap := h, toks := tk } ∧ Fly B [lenv] e t h ∧ h.TupAt t [.str badWords t'] ∧ B.get? t = none ∧
  (∀ c o, h₀.get? c = some o → B.get? c = some o) ∧ (∀ c o, c ≠ FL → c ≠ L → ¬ LI o → s₀.heap.get? c = some o → B.get? c = some o) ∧ (∀ c o, c ≠ FL → ¬ LI o → s₀.heap.get? c = some o → (∀ vs, o.data ≠ .fields vs) → ∃ sl, h.get? c = some { o with slots := sl })
section
variable {prog : Program} {w : World} {h₀ : Heap} {FL f Rw L : Addr} {qual : Str} {scope : Scope} {cdv : Value} {X Yn Gn : Str} {t1 t2 t4 y1 y2 : Expr} {S0 S3 S5 : Stmt} {p1 p2 p4 p5 p6 p7 p8 p9 px pf pg : Pos} {vs : List Value} {ns : List Int}
theorem gen_err_fresh {A : Around} {env lenv : Env} {m : Str → Option Value} {s : Shared} (hL₀ : h₀.get? L = none) (hf : env.frame = some FL) (hke : env.scope.kind = .function) (hA : A.handled = none) (hfr : A.frames = some [lenv]) (hlf : lenv.frame = some L) (hlk : lenv.scope.kind ≠ .module) (hLF : L ≠ FL)
    (P : GPieces prog w h₀ FL env X Yn px t1 t2 t4 y1 y2 S3 S5) (hXY : Yn ≠ X) (hYG : Gn ≠ Yn)
    (P0 : ∀ (A : Around) (s : Shared) m, Fr h₀ FL s.heap m → wpAny (model prog w) A (exec S0 env) (fun fl s' => fl = .next ∧ ∃ h tk, s' = { s with heap := h, toks := tk } ∧ Heap.SameBut FL s.heap h ∧ Fr h₀ FL h (fun y => if y = Yn then some Value.none else m y)) (fun _ _ => False) s)
    (PI : ∀ (A : Around) (s : Shared) m v, Fr h₀ FL s.heap m → m Gn = some v → wpAny (model prog w) A (eval (.Name Gn pg) env) (fun u s' => u = v ∧ ∃ tk, s' = { s with toks := tk }) (fun _ _ => False) s)
    (s3e : ∀ (A : Around) (s : Shared) m, A.handled = none → Fr h₀ FL s.heap m → m Yn = some .none → wpAny (model prog w) A (exec S3 env) (fun _ _ => False) (fun x s' => ∃ e h tk t, x = .ref e ∧ s' = { s with heap := h, toks := tk } ∧ Heap.MadeExcOf s.heap h e (.type "ValueError") [.str badWords t]) s)
    (hints : IntsAre vs (0 :: ns)) (F : Fr h₀ FL s.heap m) (hm : m Gn = some (.ref Rw)) (hl : s.heap.IsList Rw vs.toArray) (hRF : Rw ≠ FL) (hoL : ∃ oL, s.heap.get? L = some oL ∧ ∀ vs, oL.data ≠ .fields vs) :
    GenState.Goes (model prog w) A.in1 (GErr h₀ FL L lenv) (fun _ _ _ _ _ => False) 0 (.fresh (.func [S0, .For (.Name X px) (.Name Gn pg) (gBody t1 t2 t4 y1 y2 S3 S5 p1 p2 p4 p5 p6 p7 p8 p9) [] pf] env)) (.send .none) s := by
  refine ⟨rfl, seg_func ?_⟩
  refine seg_execs_cons (seg_wrap (wpAny_mono (P0 _ s m F) (fun fl s₁ h₁ => ?_) fun _ _ x => x.elim))
  obtain ⟨rfl, h₁, tk₁, rfl, hs₁, F₁⟩ := h₁
  have hl₁ : h₁.IsList Rw vs.toArray := hl.at fun o e => hs₁.extBut _ _ hRF e
  refine seg_execs_cons (seg_For ?_)
  refine wpAny_mono (PI _ { s with heap := h₁, toks := tk₁ } _ (.ref Rw) F₁ (by rw [if_neg hYG]; exact hm)) (fun u s₂ h₂ => ?_) fun _ _ x => x.elim
  obtain ⟨rfl, tk₂, rfl⟩ := h₂
  refine wpAny_pyIter_list (s := { s with heap := h₁, toks := tk₂ }) hl₁ ?_
  intro p
  have hFLlt : FL < h₁.objs.size := by have := F₁.ns.lt; exact this
  have hRlt : Rw < h₁.objs.size := by obtain ⟨_, e, _⟩ := hl₁; exact Heap.lt_size e
  have up : ∀ c o, h₁.get? c = some o → (h₁.push { cls := .type "list_iterator", data := .fields #[.ref Rw, .int 0 0] }).get? c = some o := fun c o e => Heap.get?_push_of_some _ e
  have F₂ := F₁.keeps up
  have hl₂ := hl₁.push { cls := .type "list_iterator", data := .fields #[.ref Rw, .int 0 0] }
  have hit : (h₁.push { cls := .type "list_iterator", data := .fields #[.ref Rw, .int 0 0] }).IsListIter h₁.objs.size Rw 0 := ⟨_, Heap.get?_push_size _ rfl, rfl, rfl⟩
  have hIt₀ : ∀ c o, h₀.get? c = some o → c ≠ h₁.objs.size := fun c o e q => by
    rw [q, Heap.get?_none_of_le (Nat.le_trans F₁.above (Nat.le_of_lt hFLlt))] at e; cases e
  have up0 : ∀ c o, c ≠ FL → s.heap.get? c = some o → (h₁.push { cls := .type "list_iterator", data := .fields #[.ref Rw, .int 0 0] }).get? c = some o := fun c o c1 e => up c o (hs₁.extBut _ _ c1 e)
  generalize h₁.push { cls := .type "list_iterator", data := .fields #[.ref Rw, .int 0 0] } = h₂ at *
  generalize hIe : h₁.objs.size = It at *
  have hIF : It ≠ FL := Nat.ne_of_gt hFLlt
  -- the first turn
  refine seg_forLoop ?_
  obtain ⟨t, ht'⟩ := hints.get 0 0 rfl
  have ht : vs.toArray[0]? = some (.int 0 t) := by simpa using ht'
  refine wpAny_pyNext_list_item (s := { s with heap := h₂, toks := tk₂ }) hit hl₂ ht fun h₃ hit₃ hs₃ => ?_
  have F₃ : Fr h₀ FL h₃ _ := ⟨F₂.ns.sameBut hs₃ (Ne.symm hIF), fun c o e => hs₃.extBut c o (hIt₀ c o e) (F₂.keep c o e), F₂.above⟩
  refine wpAny_pure (wpAny_mono (P.tg _ { s with heap := h₃, toks := tk₂ } _ _ F₃) (fun _ s₄ h₄ => ?_) fun _ _ z => z.elim)
  obtain ⟨h₄, tk₄, rfl, hs₄, F₄⟩ := h₄
  have hd1 : ∀ c p' k, (A.in1.over c [.ret k none false [] (.func [S0, .For (.Name X px) (.Name Gn pg) (gBody t1 t2 t4 y1 y2 S3 S5 p1 p2 p4 p5 p6 p7 p8 p9) [] pf] env) p' []]).handled = none := by
    intro c p' k; simp [Around.over, marksOver, Frame.marks, markOver, show A.in1.handled = none from hA]
  refine seg_execs_cons (seg_If (wpAny_mono (P.t1 _ { s with heap := h₄, toks := tk₄ } _ 0 t (hd1 _ _ _) F₄ (by simp)) (fun b s₅ h₅ => ?_) fun _ _ z => z.elim))
  obtain ⟨rfl, tk₅, rfl⟩ := h₅
  rw [decide_eq_false (by decide), if_neg (by decide)]
  refine seg_execs_nil (seg_execs_cons (seg_If (wpAny_mono (P.t2 _ { s with heap := h₄, toks := tk₅ } _ 0 t (hd1 _ _ _) F₄ (by simp)) (fun b s₆ h₆ => ?_) fun _ _ z => z.elim)))
  obtain ⟨rfl, tk₆, rfl⟩ := h₆
  rw [decide_eq_true rfl, if_pos rfl]
  refine seg_execs_cons (seg_wrap (wpAny_mono (s3e _ { s with heap := h₄, toks := tk₆ } _ (hd1 _ _ _) F₄ (by simp [hXY])) (fun _ _ z => z.elim) fun x s₇ h₇ => ?_))
  obtain ⟨e, h₇, tk₇, t₇, rfl, rfl, hx⟩ := h₇
  -- the frames
  have up4 : ∀ c o, c ≠ FL → ¬ LI o → s.heap.get? c = some o → h₄.get? c = some o := fun c o c1 c2 q => hs₄.extBut _ _ c1 (hs₃.extBut _ _ (listiter_cls hit c2 (up0 c o c1 q)) (up0 c o c1 q))
  obtain ⟨oL, hoL, hdL⟩ := hoL
  have hoL₄ : h₄.get? L = some oL := up4 L oL hLF (fun ⟨_, v, q⟩ => hdL v q) hoL
  obtain ⟨oF, hoF, hdF⟩ : ∃ oF, h₄.get? FL = some oF ∧ ∀ vs, oF.data ≠ .fields vs := by
    obtain ⟨o, es, ep, q, hd, _⟩ := F₄.ns
    exact ⟨o, q, fun v r => by rw [hd] at r; cases r⟩
  have stay : (hideAll h₄ [FL, L]).StaysIn h₄ := fun b o q => of_hideAll _ q
  have hFF : h₄.FunFrames (hideAll h₄ [FL, L]) [env, lenv] :=
    ⟨by rw [hke]; nofun, ⟨FL, oF, hf, hideAll_none _ (.head _), hoF, hdF⟩, hlk, ⟨L, oL, hlf, hideAll_none _ (.tail _ (.head _)), hoL₄, hdL⟩, trivial⟩
  have hframes : ∀ c p' k, c.envs = [] → (A.in1.over c [.ret k none false [] (.func [S0, .For (.Name X px) (.Name Gn pg) (gBody t1 t2 t4 y1 y2 S3 S5 p1 p2 p4 p5 p6 p7 p8 p9) [] pf] env) p' []]).frames = some [env, lenv] := by
    intro c p' k hc
    simp [Around.over, hc, pushEnvs, envsOf, Frame.where_, Code.isFrame, Code.env?, hfr]
  have hframes2 : (A.in1.over (.func [S0, .For (.Name X px) (.Name Gn pg) (gBody t1 t2 t4 y1 y2 S3 S5 p1 p2 p4 p5 p6 p7 p8 p9) [] pf] env) []).frames = some [env, lenv] := by
    simp [Around.over, pushEnvs, envsOf, Code.envs, Code.isFrame, Code.env?, hfr]
  show Seg _ _ _ _ _ _ _ ((do noteFrame (.ref e) env; theTreesLotGoes (.ref e) : Sem Unit).wrap (fun _ => .raise (.ref e)) .raise id id) _ _
  refine seg_wrap (wpAny_bind (fly_first (s := { s with heap := h₇, toks := tk₇ }) (hframes _ _ _ rfl) hFF hf stay hx fun h₈ te f₈ tup₈ bt u₈ => wpAny_theTreesLotGoes ?_))
  refine seg_leaf (.error (.ref e)) ?_
  show Seg _ _ _ _ _ _ _ ((Sem.onRaise (.raise (.ref e)) _).wrap _ _ _ _) _ _
  refine seg_wrap (wpAny_onRaise (wpAny_throw ?_))
  refine wpAny_bind (fly_field (s := { s with heap := h₈, toks := tk₇ }) f₈ fun T => ?_)
  rw [if_neg (by simp)]
  refine fly_flight (s := { s with heap := h₈, toks := tk₇ }) f₈ fun h₉ f₉ _ u₉ => ?_
  show Seg _ _ _ _ _ _ _ ((leaving env (.ref e)).wrap (fun _ => .raise (.ref e)) .raise id id) _ _
  refine seg_wrap (fly_leave (s := { s with heap := h₉, toks := tk₇ }) hframes2 hf f₉ fun hA' fA uA => ?_)
  refine seg_end (.error (.ref e)) ?_
  have u := u₈.trans (u₉.trans uA)
  refine ⟨e, te, _, hA', tk₇, t₇, rfl, rfl, fA, (tup₈.of_slots u₉).of_slots uA, bt, fun c o q => ?_, fun c o c1 c2 c3 q => ?_, fun c o c1 c2 q hn => ?_⟩
  · exact hideAll_get _ (F₄.keep c o q) fun hm => by
      simp only [List.mem_cons, List.not_mem_nil, or_false] at hm
      rcases hm with r | r
      · rw [r, Heap.get?_none_of_le F₄.above] at q; cases q
      · rw [r, hL₀] at q; cases q
  · exact hideAll_get _ (up4 c o c1 c3 q) fun hm => by
      simp only [List.mem_cons, List.not_mem_nil, or_false] at hm
      rcases hm with r | r
      · exact c1 r
      · exact c2 r
  · exact u c o (hx.keeps _ _ (up4 c o c1 c2 q)) hn
end
end Mine
end
section
open PySem PySem.W PyProof.Rows PySem.Calls PyProof.Rows.LCg
set_option maxRecDepth 100000
namespace Mine
theorem value_no_stop : isSubtype (.type "ValueError") (.type "StopIteration") = pure false := by rw [isSubtype_type]; kernel_rfl
/-- a generator whose first turn will raise -/
structure RLive (prog : Program) (w : World) (A : Around) (h₀ : Heap) (a : Addr) (g : Nat) (FL Rw L : Addr) (lenv : Env) (s : Shared) : Prop where
  gen : s.heap.IsGen a g
  neF : a ≠ FL
  neL : a ≠ L
  fr : ∃ m, Fr h₀ FL s.heap m
  goes : ∃ gs, s.gens[g]? = some gs ∧ ∀ s'', KeepG h₀ FL Rw s.heap s''.heap → (∃ oL, s''.heap.get? L = some oL ∧ ∀ vs, oL.data ≠ .fields vs) → gs.Goes (model prog w) A.in1 (GErr h₀ FL L lenv) (fun _ _ _ _ _ => False) 0 (.send .none) s''
/-- what is left when the exception has come out of the generator -/
structure Out (h₀ : Heap) (FL L : Addr) (lenv : Env) (a : Heap) (e t : Addr) (B b : Heap) : Prop where
  fly : Fly B [lenv] e t b
  tup : ∃ t', b.TupAt t [.str badWords t']
  none_ : B.get? t = none
  old : ∀ c o, h₀.get? c = some o → B.get? c = some o
  all : ∀ c o, c ≠ FL → c ≠ L → ¬ LI o → a.get? c = some o → B.get? c = some o
  slots : ∀ c o, c ≠ FL → ¬ LI o → a.get? c = some o → (∀ vs, o.data ≠ .fields vs) → ∃ sl, b.get? c = some { o with slots := sl }
section
variable {prog : Program} {w : World} {A : Around} {E : Value → Shared → Prop} {s : Shared} {h₀ : Heap} {L : Addr} {m : Str → Option Value} {env : Env}
theorem RLive.keep {a : Addr} {g : Nat} {FL Rw : Addr} {lenv : Env} {s' : Shared} (G : RLive prog w A h₀ a g FL Rw L lenv s) (hk : KeepG h₀ FL Rw s.heap s'.heap) (ha : s'.heap.IsGen a g) (hg : s'.gens = s.gens) : RLive prog w A h₀ a g FL Rw L lenv s' := by
  obtain ⟨_, h2, h3, ⟨m, F⟩, gs, hgs, hgo⟩ := G
  exact ⟨ha, h2, h3, ⟨m, F.ns.at' fun o e => hk _ o (.inl rfl) e, fun c o e => hk c o (.inr (.inr (.inr e))) (F.keep c o e), F.above⟩, gs, hg ▸ hgs, fun s'' k => hgo s'' (hk.trans k)⟩
theorem gen_pull_err {a : Addr} {g : Nat} {FL Rw : Addr} {lenv : Env} {Q : Value → Shared → Prop} (hroom : A.depth < recursionLimit) (hlim : h₀.NoLimit) (G : RLive prog w A h₀ a g FL Rw L lenv s) (hoL : ∃ oL, s.heap.get? L = some oL ∧ ∀ vs, oL.data ≠ .fields vs)
    (hE : ∀ e t B h' tk' gens', Out h₀ FL L lenv s.heap e t B h' → GenOnlyQ g s.gens gens' → E (.ref e) { s with heap := h', toks := tk', gens := gens' }) :
    wpAny (model prog w) A (Builtin.SmallTypes.nextOf (.ref a)) Q E s := by
  obtain ⟨hg, haF, haL, ⟨m, F⟩, gs, hgs, hgo⟩ := G
  have hgo := hgo (s.setGen g .running) KeepG.refl hoL
  have hl := hlim.keeps F.keep
  unfold Builtin.SmallTypes.nextOf
  refine wpAny_bind (wpAny_callSpecial?_slot (name := Str.ofString "__next__") hg.typeIs slot_gen_next
    (wpAny_call_entry slot_gen_next hg.typeIs entry_gen_next ?_ (args_gen_next _)))
  show wpAny _ A.in1 (Builtin.Generator.genWake (.ref a) (.send .none)) _ _ s
  unfold Builtin.Generator.genWake
  refine wpAny_bind (wpAny_holding (wpAny_genNumber hg (wpAny_bind (wpAny_genState hgs ?_))))
  cases gs with
  | running => exact hgo.elim
  | finished => exact hgo.elim
  | _ =>
    refine wpAny_bind (wpAny_roomToWake hl hroom ?_)
    show wpAny _ A.in1 (.resume g (.send .none) [] _) _ _ s
    refine wpAny_resumeQ hgs hgo (fun x s₁ hx => ?_) (fun v s₁ gs' hb hv => hv.elim)
    obtain ⟨e, t, B, h, tk, t', rfl, rfl, fly, tup, bt, hold, hall, hsl⟩ := hx
    obtain ⟨oa, nm, qn, hoa, hca, hda, hsa⟩ := hg
    have hnl : ¬ LI oa := li_cls hca (by decide)
    have ha' : h.get? a = some oa := fly.1 _ _ (hall a oa haF haL hnl hoa)
    obtain ⟨oe, hoe, hce⟩ := fly.there
    show wpAny _ A.in1 (Builtin.Generator.genLeft (.ref a) (.ref e)) _ _ _
    unfold Builtin.Generator.genLeft Builtin.Generator.madeByALambda
    refine wpAny_bind (wpAny_bind (wpAny_load ha' (wpAny_pure ?_)))
    refine wpAny_bind (wpAny_isInstance (T := "ValueError") (b := false) ⟨oe, hoe, hce⟩ value_no_stop ?_)
    rw [hda]
    simp only [Bool.and_false, Bool.false_eq_true, if_false]
    unfold Builtin.Generator.genEscaped
    refine wpAny_bind (wpAny_isInstance (T := "ValueError") (b := false) ⟨oe, hoe, hce⟩ value_no_stop ?_)
    simp only [Bool.not_false, if_true]
    refine wpAny_throw ?_
    exact hE e t B h tk _ ⟨fly, ⟨t', tup⟩, bt, hold, hall, hsl⟩ (GenOnlyQ.of ((GenOnly.setGen s g .running).trans (GenOnly.setGen _ g .finished)) (setGen_self (gs := .running) (setGen_self hgs)) rfl)
/-- a zip of a range and of a generator that will raise, just made -/
structure RSrc (prog : Program) (w : World) (A : Around) (h₀ : Heap) (L : Addr) (m : Str → Option Value) (news : List (Addr × Obj)) (lenv : Env) (s₀ : Shared) (xv : Value) (s₁ : Shared) : Prop where
  ex : ∃ z TI TO i1 a FL Rw g N h tk gens, 0 < N ∧ xv = .ref z ∧ s₁ = { s₀ with heap := h, toks := tk, gens := gens } ∧ Fr h₀ L h m ∧ News h₀ L h news ∧ (∀ p ∈ news, @LT.lt Nat _ p.1 FL) ∧ @LT.lt Nat _ L FL ∧
    @LT.lt Nat _ FL a ∧ @LT.lt Nat _ a i1 ∧ @LT.lt Nat _ i1 TI ∧ @LT.lt Nat _ TI TO ∧ @LT.lt Nat _ TO z ∧ IsZip h z TI TO .none ∧ IsPair h TI (.ref i1) (.ref a) ∧ IsPair h TO .none .none ∧ IsRangeIter h i1 0 N 1 ∧
    Rw < FL ∧ RLive prog w A.in1 h₀ a g FL Rw L lenv s₁ ∧ ∀ gens', GenOnlyQ g gens gens' → AllBare gens'
theorem zip_call_err {r a FL g Rw : Nat} {N : Int} {t u v : Tok} {news : List (Addr × Obj)} {lenv : Env} {s₀ : Shared} (hN : Builtin.Range.small 0 N 1 = true) (hsz : Builtin.Range.rangeSize 0 N 1 = N) (h0 : 0 < N)
    (hr : IsRange s.heap r 0 N 1 t u v) (F : Fr h₀ L s.heap m) (N9 : News h₀ L s.heap news) (G : RLive prog w A.in1 h₀ a g FL Rw L lenv s) (hnF : ∀ p ∈ news, @LT.lt Nat _ p.1 FL) (hLF : @LT.lt Nat _ L FL) (ha : FL < a) (hRw : Rw < FL)
    (hs : ∃ h tk gens, s = { s₀ with heap := h, toks := tk, gens := gens }) (hb : ∀ gens', GenOnlyQ g s.gens gens' → AllBare gens') :
    wpAny (model prog w) A (call (.type "zip") [.ref r, .ref a]) (RSrc prog w A h₀ L m news lenv s₀) E s := by
  refine call_zip_rg hr hN hsz G.gen fun h' z1 z2 z3 z4 z5 up => ?_
  have hlt : @LT.lt Nat _ a s.heap.objs.size := by obtain ⟨o, nm, qn, ho, _⟩ := G.gen; exact Heap.lt_size ho
  obtain ⟨h, tk, gens, e⟩ := hs
  have e1 : ({ s with heap := h' } : Shared) = { s₀ with heap := h', toks := tk, gens := gens } := by rw [e]
  have e2 : s.gens = gens := by rw [e]
  exact ⟨_, _, _, _, a, FL, Rw, g, N, h', tk, gens, h0, rfl, e1, F.keeps up, N9.keeps up, hnF, hLF, ha, hlt, Nat.lt_succ_self _, Nat.lt_succ_self _, Nat.lt_succ_self _, z1, z2, z3, z4,
    hRw, G.keep (fun c o _ x => up c o x) (G.gen.keeps up) rfl, e2 ▸ hb⟩
theorem raise_eval {target elt iter : Expr} {scope : Scope} {cl : List (Str × Addr)} {news : List (Addr × Obj)} {pos : Pos} {Q : Value → Shared → Prop}
    (_F : Fr h₀ L s.heap m) (_N : News h₀ L s.heap news) (hL : env.locals = L) (hlf : env.frame = some L) (hfr : A.frames = some [env]) (hroom : A.depth < recursionLimit) (hlim : h₀.NoLimit) (hkind : scope.kind = .function)
    (hclos : closureFor scope env = pure cl) (hcell : ∀ z ∈ scope.names, z.2 ≠ .cell) (hnames : ∀ z ∈ scope.names, z.2 = .local → scope.names.lookup z.1 = some .local)
    (hnl : ∀ p ∈ news, ¬ LI p.2)
    (hev : wpAny (model prog w) A (eval iter env) (RSrc prog w A h₀ L m news env s) E s)
    (fin : ∀ e t B h' tk gens', Fly B [env] e t h' → (∃ t', h'.TupAt t [.str badWords t']) → B.get? t = none → (∀ c o, h₀.get? c = some o → B.get? c = some o) → (∀ p ∈ news, B.get? p.1 = some p.2) → h'.Ns L m → AllBare gens' →
      E (.ref e) { s with heap := h', toks := tk, gens := gens' })
    (hs : ∀ x, foldedSetIterable iter env x = pure x := by intro _; rfl) :
    wpAny (model prog w) A (eval (.ListComp elt [⟨target, iter, [], 0⟩] scope pos) env) Q E s := by
  subst hL
  rw [eval_ListComp]
  refine wpAny_comprehension_free (use := none) rfl hs hclos hkind hnames (wpAny_mono hev (fun xv s₁ hz => ?_) fun _ _ e => e)
  obtain ⟨z, TI, TO, i1, a, FL, Rw, g, N, h, tk, gens, hN0, rfl, rfl, F, N9, hnF, hLF, o1, o2, o3, o4, o5, hz, hTI, hTO, hi1, hRF, G, hbare⟩ := hz.ex
  have hzlt : @LT.lt Nat _ z h.objs.size := Heap.lt_size hz
  refine wpAny_pyIter_zip (s := { s with heap := h, toks := tk, gens := gens }) hz ?_
  refine wpAny_newObj_type (wpAny_newFunctionEnv hcell (by intro y hy; simp at hy) (fun h₁ hns₁ hsb₁ => ?_) hkind)
  dsimp only at hns₁ hsb₁ ⊢
  generalize hH2 : h.push { cls := .type "list", dict := none, data := .seq ([] : List Value).toArray } = H2 at hns₁ hsb₁ ⊢
  have hC : H2.objs.size = h.objs.size + 1 := by rw [← hH2, Heap.size_push]
  have up : ∀ b o, h.get? b = some o → h₁.get? b = some o := fun b o e => hsb₁.extBut b o (show @Ne Nat _ _ by have : @LT.lt Nat _ b h.objs.size := Heap.lt_size e; rw [hC]; omega) (Heap.get?_push_of_some _ (hH2 ▸ Heap.get?_push_of_some _ e))
  have cenvF : ∀ C, (compEnvC scope cl C env).frame = env.frame := fun _ => rfl
  have hCz : @LT.lt Nat _ z H2.objs.size := by rw [hC]; omega
  generalize H2.objs.size = C at *
  have F₁ := F.keeps up
  have N₁ := N9.keeps up
  have G₁ : RLive prog w A.in1 h₀ a g FL Rw env.locals env { s with heap := h₁, toks := tk + ([] : List (Str × Value)).length, gens := gens } := G.keep (fun c o _ e => up c o e) (G.gen.keeps up) rfl
  have hz₁ : IsZip h₁ z TI TO .none := up _ _ hz
  have ord := Ord7.of hLF o1 o2 o3 o4 o5
  obtain ⟨b1, b2, b3, b4, b5, b6, b7⟩ := ord.behind hCz
  obtain ⟨p1, p2, p3, p4, p5, p6, p7, p8, p9, p10, p11, p12, p13, p14, p15, p16, p17, p18, p19, p20, p21⟩ := ord
  -- the loop's first turn
  have turn : ∀ s₃ : Shared, s₃ = { s with heap := h₁, toks := tk + ([] : List (Str × Value)).length, gens := gens } →
      codeAny (model prog w) A (.compLoop (.ListComp elt [⟨target, iter, [], 0⟩] scope pos) 0 (.ref z) (.ref h.objs.size) (compEnvC scope cl C env)) (compPost (model prog w) A E none Q (.ref h.objs.size) C) s₃ := by
    rintro s₃ rfl
    refine kcp_loop (fun n s' => s' = { s with heap := h₁, toks := tk + ([] : List (Str × Value)).length, gens := gens }) ?_ 1 rfl
    rintro n s' rfl
    refine zip_pyNext (s := { s with heap := h₁, toks := tk + ([] : List (Str × Value)).length, gens := gens }) (show @Ne Nat _ _ by (first | exact Nat.ne_of_lt (by assumption) | exact Nat.ne_of_gt (by assumption) | exact Nat.ne_of_lt (Nat.lt_trans this (by assumption)) | exact Nat.ne_of_gt (Nat.lt_trans this (by assumption)) | omega)) (show @Ne Nat _ _ by (first | exact Nat.ne_of_lt (by assumption) | exact Nat.ne_of_gt (by assumption) | exact Nat.ne_of_lt (Nat.lt_trans this (by assumption)) | exact Nat.ne_of_gt (Nat.lt_trans this (by assumption)) | omega)) hz₁ (up _ _ hTI) (up _ _ hTO) fun h₂ hz₂ hs₂ => ?_
    refine range_nextOf (A := A.in1) (hs₂.extBut _ _ (show @Ne Nat _ _ by (first | exact Nat.ne_of_lt (by assumption) | exact Nat.ne_of_gt (by assumption) | exact Nat.ne_of_lt (Nat.lt_trans this (by assumption)) | exact Nat.ne_of_gt (Nat.lt_trans this (by assumption)) | omega)) (up _ _ hi1)) hN0 fun h₃ hr₃ hs₃ => ?_
    refine ⟨hs₃.extBut _ _ (show @Ne Nat _ _ by (first | exact Nat.ne_of_lt (by assumption) | exact Nat.ne_of_gt (by assumption) | exact Nat.ne_of_lt (Nat.lt_trans this (by assumption)) | exact Nat.ne_of_gt (Nat.lt_trans this (by assumption)) | omega)) (hs₂.extBut _ _ (show @Ne Nat _ _ by (first | exact Nat.ne_of_lt (by assumption) | exact Nat.ne_of_gt (by assumption) | exact Nat.ne_of_lt (Nat.lt_trans this (by assumption)) | exact Nat.ne_of_gt (Nat.lt_trans this (by assumption)) | omega)) (up _ _ hTO)), fun h₄ hTO₄ hs₄ => ?_⟩
    have k₄ : ∀ c o, c ≠ z → c ≠ TO → c ≠ i1 → h₁.get? c = some o → h₄.get? c = some o := fun c o c1 c2 c3 e => hs₄.extBut _ _ c2 (hs₃.extBut _ _ c3 (hs₂.extBut _ _ c1 e))
    have hz₄ : IsZip h₄ z TI TO .ellipsis := hs₄.extBut _ _ (show @Ne Nat _ _ by (first | exact Nat.ne_of_lt (by assumption) | exact Nat.ne_of_gt (by assumption) | exact Nat.ne_of_lt (Nat.lt_trans this (by assumption)) | exact Nat.ne_of_gt (Nat.lt_trans this (by assumption)) | omega)) (hs₃.extBut _ _ (show @Ne Nat _ _ by (first | exact Nat.ne_of_lt (by assumption) | exact Nat.ne_of_gt (by assumption) | exact Nat.ne_of_lt (Nat.lt_trans this (by assumption)) | exact Nat.ne_of_gt (Nat.lt_trans this (by assumption)) | omega)) hz₂)
    have h0F : ∀ {c o}, h₀.get? c = some o → @LT.lt Nat _ c FL := fun e => Nat.lt_trans (Nat.lt_of_lt_of_le (Heap.lt_size e) F.above) hLF
    have G₄ : RLive prog w A.in1 h₀ a g FL Rw env.locals env { s with heap := h₄, toks := tk + ([] : List (Str × Value)).length + 1, gens := gens } := by
      refine G₁.keep (fun c o hc e => ?_) ?_ rfl
      · have hcl : (c ≠ z ∧ c ≠ TO ∧ c ≠ i1) := by
          rcases hc with rfl | rfl | hc | hc
          · exact ⟨show @Ne Nat _ _ by (first | exact Nat.ne_of_lt (by assumption) | exact Nat.ne_of_gt (by assumption) | exact Nat.ne_of_lt (Nat.lt_trans this (by assumption)) | exact Nat.ne_of_gt (Nat.lt_trans this (by assumption)) | omega), show @Ne Nat _ _ by (first | exact Nat.ne_of_lt (by assumption) | exact Nat.ne_of_gt (by assumption) | exact Nat.ne_of_lt (Nat.lt_trans this (by assumption)) | exact Nat.ne_of_gt (Nat.lt_trans this (by assumption)) | omega), show @Ne Nat _ _ by (first | exact Nat.ne_of_lt (by assumption) | exact Nat.ne_of_gt (by assumption) | exact Nat.ne_of_lt (Nat.lt_trans this (by assumption)) | exact Nat.ne_of_gt (Nat.lt_trans this (by assumption)) | omega)⟩
          · exact ⟨show @Ne Nat _ _ by (first | exact Nat.ne_of_lt (by assumption) | exact Nat.ne_of_gt (by assumption) | exact Nat.ne_of_lt (Nat.lt_trans this (by assumption)) | exact Nat.ne_of_gt (Nat.lt_trans this (by assumption)) | omega), show @Ne Nat _ _ by (first | exact Nat.ne_of_lt (by assumption) | exact Nat.ne_of_gt (by assumption) | exact Nat.ne_of_lt (Nat.lt_trans this (by assumption)) | exact Nat.ne_of_gt (Nat.lt_trans this (by assumption)) | omega), show @Ne Nat _ _ by (first | exact Nat.ne_of_lt (by assumption) | exact Nat.ne_of_gt (by assumption) | exact Nat.ne_of_lt (Nat.lt_trans this (by assumption)) | exact Nat.ne_of_gt (Nat.lt_trans this (by assumption)) | omega)⟩
          · refine ⟨fun q => ?_, fun q => ?_, fun q => ?_⟩
            · rw [q, show h₁.get? z = _ from hz₁] at e; cases e; exact li_cls (n := "zip") rfl (by decide) hc
            · rw [q, show h₁.get? TO = _ from up _ _ hTO] at e; cases e; exact li_cls (n := "tuple") rfl (by decide) hc
            · rw [q, show h₁.get? i1 = _ from up _ _ hi1] at e; cases e; exact li_cls (n := "range_iterator") rfl (by decide) hc
          · have := h0F hc
            exact ⟨show @Ne Nat _ _ by (first | exact Nat.ne_of_lt (by assumption) | exact Nat.ne_of_gt (by assumption) | exact Nat.ne_of_lt (Nat.lt_trans this (by assumption)) | exact Nat.ne_of_gt (Nat.lt_trans this (by assumption)) | omega), show @Ne Nat _ _ by (first | exact Nat.ne_of_lt (by assumption) | exact Nat.ne_of_gt (by assumption) | exact Nat.ne_of_lt (Nat.lt_trans this (by assumption)) | exact Nat.ne_of_gt (Nat.lt_trans this (by assumption)) | omega), show @Ne Nat _ _ by (first | exact Nat.ne_of_lt (by assumption) | exact Nat.ne_of_gt (by assumption) | exact Nat.ne_of_lt (Nat.lt_trans this (by assumption)) | exact Nat.ne_of_gt (Nat.lt_trans this (by assumption)) | omega)⟩
        exact k₄ c o hcl.1 hcl.2.1 hcl.2.2 e
      · obtain ⟨o, nm, qn, ho, r⟩ := G₁.gen
        exact ⟨o, nm, qn, k₄ _ o (show @Ne Nat _ _ by (first | exact Nat.ne_of_lt (by assumption) | exact Nat.ne_of_gt (by assumption) | exact Nat.ne_of_lt (Nat.lt_trans this (by assumption)) | exact Nat.ne_of_gt (Nat.lt_trans this (by assumption)) | omega)) (show @Ne Nat _ _ by (first | exact Nat.ne_of_lt (by assumption) | exact Nat.ne_of_gt (by assumption) | exact Nat.ne_of_lt (Nat.lt_trans this (by assumption)) | exact Nat.ne_of_gt (Nat.lt_trans this (by assumption)) | omega)) (show @Ne Nat _ _ by (first | exact Nat.ne_of_lt (by assumption) | exact Nat.ne_of_gt (by assumption) | exact Nat.ne_of_lt (Nat.lt_trans this (by assumption)) | exact Nat.ne_of_gt (Nat.lt_trans this (by assumption)) | omega)) ho, r⟩
    obtain ⟨oL, esL, epL, hoL, hdL, rL⟩ := F₁.ns
    have hoL₄ : h₄.get? env.locals = some oL := k₄ _ _ (show @Ne Nat _ _ by (first | exact Nat.ne_of_lt (by assumption) | exact Nat.ne_of_gt (by assumption) | exact Nat.ne_of_lt (Nat.lt_trans this (by assumption)) | exact Nat.ne_of_gt (Nat.lt_trans this (by assumption)) | omega)) (show @Ne Nat _ _ by (first | exact Nat.ne_of_lt (by assumption) | exact Nat.ne_of_gt (by assumption) | exact Nat.ne_of_lt (Nat.lt_trans this (by assumption)) | exact Nat.ne_of_gt (Nat.lt_trans this (by assumption)) | omega)) (show @Ne Nat _ _ by (first | exact Nat.ne_of_lt (by assumption) | exact Nat.ne_of_gt (by assumption) | exact Nat.ne_of_lt (Nat.lt_trans this (by assumption)) | exact Nat.ne_of_gt (Nat.lt_trans this (by assumption)) | omega)) hoL
    refine gen_pull_err (A := A.in1) (s := { s with heap := h₄, toks := tk + ([] : List (Str × Value)).length + 1, gens := gens }) hroom hlim G₄ ⟨oL, hoL₄, fun v q => by rw [hdL] at q; cases q⟩ fun e t B h₅ tk₅ gens₅ O gq => ?_
    obtain ⟨fly, ⟨t', tup⟩, bt, hold, hall, hsl⟩ := O
    have bz : B.get? z = some _ := hall z _ (show @Ne Nat _ _ by (first | exact Nat.ne_of_lt (by assumption) | exact Nat.ne_of_gt (by assumption) | exact Nat.ne_of_lt (Nat.lt_trans this (by assumption)) | exact Nat.ne_of_gt (Nat.lt_trans this (by assumption)) | omega)) (show @Ne Nat _ _ by (first | exact Nat.ne_of_lt (by assumption) | exact Nat.ne_of_gt (by assumption) | exact Nat.ne_of_lt (Nat.lt_trans this (by assumption)) | exact Nat.ne_of_gt (Nat.lt_trans this (by assumption)) | omega)) (li_cls (n := "zip") rfl (by decide)) hz₄
    have hz₅ : IsZip h₅ z TI TO .ellipsis := fly.1 _ _ bz
    refine ⟨hz₅, fun h₆ hs₆ => ?_⟩
    obtain ⟨oe, hoe, hce⟩ := fly.there
    have fly₆ := fly.change (h' := h₆) bz fun b o hb q => hs₆.extBut b o hb q
    obtain ⟨oe₆, hoe₆, hce₆⟩ := fly₆.there
    refine wpAny_isInstance (T := "ValueError") (b := false) ⟨oe₆, hoe₆, hce₆⟩ value_no_stop ?_
    rw [if_neg (by decide)]
    -- the loop notes the frame
    refine fly_note (s := { s with heap := h₆, toks := tk₅, gens := gens₅ }) (env := env) (env' := compEnvC scope cl C env) rfl hfr hlf fly₆ fun h₇ fly₇ u₇ => ?_
    -- the variables are let go
    have tne : @Ne Nat t z := fun q => by rw [show t = z from q, bz] at bt; cases bt
    obtain ⟨oT, nT, hoT, hcT, hdT⟩ := tup
    have tup₆ : h₆.TupAt t [.str badWords t'] := ⟨oT, nT, hs₆.extBut _ _ tne hoT, hcT, hdT⟩
    have tup₇ := tup₆.of_slots u₇
    obtain ⟨oC, hoC, hnsC⟩ := ns_obj hns₁
    have hoC₄ : h₄.get? C = some oC := k₄ _ _ (show @Ne Nat _ _ by (first | exact Nat.ne_of_lt (by assumption) | exact Nat.ne_of_gt (by assumption) | exact Nat.ne_of_lt (Nat.lt_trans this (by assumption)) | exact Nat.ne_of_gt (Nat.lt_trans this (by assumption)) | omega)) (show @Ne Nat _ _ by (first | exact Nat.ne_of_lt (by assumption) | exact Nat.ne_of_gt (by assumption) | exact Nat.ne_of_lt (Nat.lt_trans this (by assumption)) | exact Nat.ne_of_gt (Nat.lt_trans this (by assumption)) | omega)) (show @Ne Nat _ _ by (first | exact Nat.ne_of_lt (by assumption) | exact Nat.ne_of_gt (by assumption) | exact Nat.ne_of_lt (Nat.lt_trans this (by assumption)) | exact Nat.ne_of_gt (Nat.lt_trans this (by assumption)) | omega)) hoC
    have nliC : ¬ LI oC := ns_not_li hns₁ hoC
    have bC : (hideAll B [z]).get? C = some oC := hideAll_get _ (hall C oC (show @Ne Nat _ _ by (first | exact Nat.ne_of_lt (by assumption) | exact Nat.ne_of_gt (by assumption) | exact Nat.ne_of_lt (Nat.lt_trans this (by assumption)) | exact Nat.ne_of_gt (Nat.lt_trans this (by assumption)) | omega)) (show @Ne Nat _ _ by (first | exact Nat.ne_of_lt (by assumption) | exact Nat.ne_of_gt (by assumption) | exact Nat.ne_of_lt (Nat.lt_trans this (by assumption)) | exact Nat.ne_of_gt (Nat.lt_trans this (by assumption)) | omega)) nliC hoC₄) fun hm => by
      rcases List.mem_cons.mp hm with q | q
      · exact (show @Ne Nat C z by (first | exact Nat.ne_of_lt (by assumption) | exact Nat.ne_of_gt (by assumption) | exact Nat.ne_of_lt (Nat.lt_trans this (by assumption)) | exact Nat.ne_of_gt (Nat.lt_trans this (by assumption)) | omega)) q
      · cases q
    refine ⟨_, hnsC.ns (fly₇.1 _ _ bC), fun h₈ hs₈ cenv hcenv => ?_⟩
    have fly₈ := fly₇.change (h' := h₈) bC fun b o hb q => hs₈.extBut b o hb q
    have tneC : @Ne Nat t C := fun q => by
      have r := hall C oC (show @Ne Nat _ _ by (first | exact Nat.ne_of_lt (by assumption) | exact Nat.ne_of_gt (by assumption) | exact Nat.ne_of_lt (Nat.lt_trans this (by assumption)) | exact Nat.ne_of_gt (Nat.lt_trans this (by assumption)) | omega)) (show @Ne Nat _ _ by (first | exact Nat.ne_of_lt (by assumption) | exact Nat.ne_of_gt (by assumption) | exact Nat.ne_of_lt (Nat.lt_trans this (by assumption)) | exact Nat.ne_of_gt (Nat.lt_trans this (by assumption)) | omega)) nliC hoC₄
      rw [← show t = C from q, bt] at r
      cases r
    unfold PySem.passOn
    refine wpAny_bind (fly_field (s := { s with heap := h₈, toks := tk₅, gens := gens₅ }) fly₈ fun T => ?_)
    rw [if_neg (by simp)]
    refine wpAny_bind (fly_flight (s := { s with heap := h₈, toks := tk₅, gens := gens₅ }) fly₈ fun h₉ fly₉ _ u₉ => wpAny_throw ?_)
    have hid : ∀ c o, @Ne Nat c z → @Ne Nat c C → B.get? c = some o → (hideAll (hideAll B [z]) [C]).get? c = some o := fun c o c1 c2 q => by
      refine hideAll_get _ (hideAll_get _ q fun hm => ?_) fun hm => ?_
      · rcases List.mem_cons.mp hm with r | r
        · exact c1 r
        · cases r
      · rcases List.mem_cons.mp hm with r | r
        · exact c2 r
        · cases r
    have hh₁ : @LT.lt Nat _ z C := hCz
    refine fin e t _ h₉ tk₅ gens₅ fly₉ ⟨t', ?_⟩ ?_ (fun c o q => ?_) (fun p hp => ?_) ?_ (hbare _ gq)
    · obtain ⟨o7, n7, ho7, hc7, hd7⟩ := tup₇
      exact Heap.TupAt.of_slots ⟨o7, n7, hs₈.extBut _ _ tneC ho7, hc7, hd7⟩ u₉
    · cases q : (hideAll (hideAll B [z]) [C]).get? t with
      | none => rfl
      | some o => rw [of_hideAll _ (of_hideAll _ q)] at bt; cases bt
    · have := h0F q
      exact hid c o (by (first | exact Nat.ne_of_lt (by assumption) | exact Nat.ne_of_gt (by assumption) | exact Nat.ne_of_lt (Nat.lt_trans this (by assumption)) | exact Nat.ne_of_gt (Nat.lt_trans this (by assumption)) | omega)) (by (first | exact Nat.ne_of_lt (by assumption) | exact Nat.ne_of_gt (by assumption) | exact Nat.ne_of_lt (Nat.lt_trans this (by assumption)) | exact Nat.ne_of_gt (Nat.lt_trans this (by assumption)) | omega)) (hold c o q)
    · have := hnF p hp
      exact hid _ _ (by (first | exact Nat.ne_of_lt (by assumption) | exact Nat.ne_of_gt (by assumption) | exact Nat.ne_of_lt (Nat.lt_trans this (by assumption)) | exact Nat.ne_of_gt (Nat.lt_trans this (by assumption)) | omega)) (by (first | exact Nat.ne_of_lt (by assumption) | exact Nat.ne_of_gt (by assumption) | exact Nat.ne_of_lt (Nat.lt_trans this (by assumption)) | exact Nat.ne_of_gt (Nat.lt_trans this (by assumption)) | omega)) (hall p.1 p.2 (show @Ne Nat _ _ by (first | exact Nat.ne_of_lt (by assumption) | exact Nat.ne_of_gt (by assumption) | exact Nat.ne_of_lt (Nat.lt_trans this (by assumption)) | exact Nat.ne_of_gt (Nat.lt_trans this (by assumption)) | omega)) (N₁ p hp).2.1 (hnl p hp) (k₄ _ _ (show @Ne Nat _ _ by (first | exact Nat.ne_of_lt (by assumption) | exact Nat.ne_of_gt (by assumption) | exact Nat.ne_of_lt (Nat.lt_trans this (by assumption)) | exact Nat.ne_of_gt (Nat.lt_trans this (by assumption)) | omega)) (show @Ne Nat _ _ by (first | exact Nat.ne_of_lt (by assumption) | exact Nat.ne_of_gt (by assumption) | exact Nat.ne_of_lt (Nat.lt_trans this (by assumption)) | exact Nat.ne_of_gt (Nat.lt_trans this (by assumption)) | omega)) (show @Ne Nat _ _ by (first | exact Nat.ne_of_lt (by assumption) | exact Nat.ne_of_gt (by assumption) | exact Nat.ne_of_lt (Nat.lt_trans this (by assumption)) | exact Nat.ne_of_gt (Nat.lt_trans this (by assumption)) | omega)) (N₁ p hp).1))
    · have nfL : ∀ v, oL.data ≠ .fields v := fun v q => by rw [hdL] at q; cases q
      obtain ⟨sl5, q5⟩ := hsl env.locals oL (show @Ne Nat _ _ by (first | exact Nat.ne_of_lt (by assumption) | exact Nat.ne_of_gt (by assumption) | exact Nat.ne_of_lt (Nat.lt_trans this (by assumption)) | exact Nat.ne_of_gt (Nat.lt_trans this (by assumption)) | omega)) (fun ⟨_, v, q⟩ => nfL v q) hoL₄ nfL
      have q6 := hs₆.extBut _ _ (show @Ne Nat _ _ by (first | exact Nat.ne_of_lt (by assumption) | exact Nat.ne_of_gt (by assumption) | exact Nat.ne_of_lt (Nat.lt_trans this (by assumption)) | exact Nat.ne_of_gt (Nat.lt_trans this (by assumption)) | omega)) q5
      obtain ⟨sl7, q7⟩ := u₇ _ _ q6 nfL
      have q8 := hs₈.extBut _ _ (show @Ne Nat _ _ by (first | exact Nat.ne_of_lt (by assumption) | exact Nat.ne_of_gt (by assumption) | exact Nat.ne_of_lt (Nat.lt_trans this (by assumption)) | exact Nat.ne_of_gt (Nat.lt_trans this (by assumption)) | omega)) q7
      obtain ⟨sl9, q9⟩ := u₉ _ _ q8 nfL
      exact ⟨_, esL, epL, q9, hdL, rL⟩
  exact codeAny_compStart_list (turn _ rfl) (wpAny_pyIter_zip (s := { s with heap := h₁, toks := tk + ([] : List (Str × Value)).length, gens := gens }) hz₁ (turn _ rfl))
end
end Mine
end
section
open PySem PySem.W PyProof.Rows PySem.Calls
set_option maxRecDepth 100000
namespace Mine
/-- contract of the call of the generator function with a nought ahead -/
noncomputable abbrev ConGR (w : World) (mean : ExcName → Option Value) (mg mb : Str → Option Value) (f Rw : Addr) (vs : List Value) (ns : List Int) : Prop :=
  ∀ (A : Around) (h₀ : Heap) (L : Addr) (m : Str → Option Value) (s : Shared) (Q E : Value → Shared → Prop),
    Fr h₀ L s.heap m → (KK w).In h₀ → TopM mean mg mb h₀ → A.depth < recursionLimit →
    s.heap.IsList Rw vs.toArray → IntsAre vs (0 :: ns) →
    (∀ h' tk' gs, gs.bare = true → (∀ b o, s.heap.get? b = some o → h'.get? b = some o) →
      (∀ (A : Around) (lenv : Env) (L : Addr), A.handled = none → A.frames = some [lenv] → lenv.frame = some L → lenv.scope.kind ≠ .module → h₀.get? L = none → @LT.lt Nat _ L s.heap.objs.size →
        RLive prog w A h₀ (s.heap.objs.size + 1) s.gens.size s.heap.objs.size Rw L lenv { s with heap := h', toks := tk', gens := s.gens.push gs }) →
      Q (.ref (s.heap.objs.size + 1)) { s with heap := h', toks := tk', gens := s.gens.push gs }) →
    wpAny (model prog w) A (call (.ref f) [.ref Rw]) Q E s
set_option maxHeartbeats 4000000 in
theorem gen_cr (w mean mg mb) (Rw : Addr) (vs : List Value) (ns : List Int) : ConGR w mean mg mb 21 Rw vs ns := by
  unfold ConGR KK Mine.prog TopM; k_with_none; w_top off; k_fill
  intro A h₀ L m s Q E F X T hdp hl hints hret
  refine wpAny_call ?_
  (refine' gen_enter F X T ?k6 ?k7 hdp ?k9 ?kB ?_ ?c2 ?c3 ?c4 ?c5; (case k6 => k_is); (case k7 => k_is); (case k9 => exact BindsTo.of_eq rfl); (case c5 => decide); (case kB => exact locs rfl); (case c2 => exact rfl); (case c3 => exact rfl); (case c4 => exact rfl))
  intro h₁ tk F₁ up hg
  refine hret h₁ tk _ rfl up fun A lenv L hA hfr hlf hlk hL₀ hLlt => ?_
  have hRlt : @LT.lt Nat _ Rw s.heap.objs.size := by obtain ⟨_, e, _⟩ := hl; exact Heap.lt_size e
  have hl₁ := hl.at fun o e => up _ o e
  refine ⟨hg, Nat.succ_ne_self _, Nat.ne_of_gt (Nat.lt_succ_of_lt hLlt), ⟨_, F₁⟩, _, Array.getElem?_push_size .., fun s'' K hoL => ?_⟩
  have F₂ := fr_own F₁ (It := Rw) (fun c o h e => by
    rcases h with rfl | rfl | rfl | h
    · exact K _ o (.inl rfl) e
    · exact K _ o (.inr (.inl rfl)) e
    · exact K _ o (.inr (.inl rfl)) e
    · exact K _ o (.inr (.inr (.inr h))) e)
  have hl₂ : s''.heap.IsList Rw vs.toArray := hl₁.at fun o e => K _ o (.inr (.inl rfl)) e
  refine' gen_err_fresh (A := A) hL₀ ?ff ?ke hA hfr hlf hlk (Nat.ne_of_lt hLlt) ?P ?n1 ?n2 ?P0 ?PI ?s3e hints F₂ ?n3 hl₂ (Nat.ne_of_lt hRlt) hoL
  case ff => rfl
  case ke => rfl
  case n3 => rfl
  clear hret F₁ hg up hl hl₁ hl₂ F₂ K hoL
  case PI =>
    intro A s m v F hv
    exact ld F hv ⟨rfl, _, rfl⟩
  case P =>
    refine' ⟨?t1, ?t2, ?t4, ?y1, ?y2, ?s3, ?s5, ?tg⟩
    case y1 => intro A s m v F hv; exact ld F hv ⟨rfl, _, rfl⟩
    case y2 => intro A s m v F hv; exact ld F hv ⟨rfl, _, rfl⟩
    case t1 =>
      intro A s m x t hA F hm
      k_steps
      refine ld F hm ?_
      k_steps
    case t2 =>
      intro A s m x t hA F hm
      k_steps
      refine ld F hm ?_
      k_steps
    case t4 =>
      intro A s
      k_steps
    case s3 =>
      intro A s m x t hA F hm
      k_steps
      refine ld F hm ?_
      k_steps
    case s5 =>
      intro A s m v F hv
      exact assign_as rfl F (by rfl) (fun Q hq => ld F hv hq) (by rfl) (by rfl)
    case tg =>
      intro A s m v F
      refine wpAny_assign_Name (wpAny_storeName_local (by rfl) F.ns (fun h' hn hs => ⟨h', _, rfl, hs, F.set hn hs⟩))
  case P0 => 
    intro A s m F
    exact assign_as rfl F (by rfl) (fun Q hq => wpAny_of_eq (a := Value.none) (by rfl) hq) (by rfl) (by rfl)
  case s3e =>
    intro A s m hA F hm
    k_steps
    refine ld F hm ?_
    k_with "exec Raise some none" => (refine Raise_madeB PySem.F.excCall_ValueError PySem.F.excRaise_ValueError hA ?_)
    k_steps
    any_goals (exact Heap.MadeExc.of (by assumption))
    all_goals (skip; fail "stop")
  case n1 => decide
  case n2 => decide
end Mine
end
section
open PySem PySem.W PyProof.Rows PySem.Calls PyProof.Rows.LCg
set_option maxRecDepth 100000
namespace Mine
section
variable {prog : Program} {w : World} {A : Around} {E : Value → Shared → Prop} {s : Shared} {h₀ : Heap} {L : Addr} {m : Str → Option Value} {env : Env}
theorem catch_law {e t : Addr} {B h₁ : Heap} {v : Value} {tst : Expr} {n : Str} {b₀ : Stmt} {suite : List Stmt} {pos : Pos} {rest : List ExceptHandler} {Q : Flow → Shared → Prop} {news : List (Addr × Obj)} {m₁ : Str → Option Value}
    (hL : env.locals = L) (hlf : env.frame = some L) (hfr : A.frames = some [env]) (F : Fr h₀ L h₁ m₁) (N : News h₀ L h₁ news) (fly : Fly B [env] e t s.heap) (tup : s.heap.TupAt t [v]) (bt : B.get? t = none) (hold : ∀ c o, h₀.get? c = some o → B.get? c = some o)
    (hnews : ∀ p ∈ news, B.get? p.1 = some p.2) (hns : s.heap.Ns L m)
    (hname : ∀ (s' : Shared) (E' Q' : Value → Shared → Prop), Fr h₀ L s'.heap m → Q' (.type "ValueError") s' → wpAny (model prog w) (A.mark (some (.ref e))) (eval tst env) Q' E' s')
    (hn : env.kindOf n = some .local) (hp : (env.scope.kind == .class || (env.scope.kind == .module && env.locals != env.globals)) = false)
    (k : ∀ h' news₂ tk, Fr h₀ L h' (fun y => if y = n then some (.ref e) else m y) → News h₀ L h' news₂ → Got news₂ e t (.type "ValueError") [v] → News h₀ L h' news →
      wpAny (model prog w) (A.mark (some (.ref e))) (execs (b₀ :: suite) env)
        (fun f s₄ => wpAny (model prog w) A (do bindName env n .none; unbindBehindTheSuite env n pos) (fun _ s₅ => Q f s₅) E s₄)
        (AsSuiteRaised (model prog w) (A.mark (some (.ref e))) env n pos (notedBy (model prog w) (A.mark (some (.ref e))) env (cameBackBy (model prog w) A env E)))
        { s with heap := h', toks := tk }) :
    wpAny (model prog w) A (noteFrame (.ref e) env)
      (fun _ s₂ => wpAny (model prog w) A (setFlight (.ref e) none) (fun _ s₃ =>
        wpAny (model prog w) A (handleBy (.ref e) env (.ExceptHandler (some tst) (some n) (b₀ :: suite) pos :: rest)) Q E s₃) E s₂) E s := by
  subst hL
  have hL₀ : h₀.get? env.locals = none := Heap.get?_none_of_le F.above
  refine fly_note rfl hfr hlf fly fun h₂ f₂ u₂ => ?_
  refine fly_flight (s := { s with heap := h₂ }) f₂ fun h₃ f₃ _ u₃ => ?_
  obtain ⟨ob, hob, hobc⟩ := f₃.there
  have hns₃ : h₃.Ns env.locals m := u₃.ns (u₂.ns hns)
  have F₃ : Fr h₀ env.locals h₃ m := ⟨hns₃, fun c o q => f₃.1 _ _ (hold c o q), F.above⟩
  refine wpAny_handleBy_builtin_as (X := "ValueError") (T := "ValueError") (b := true) PySem.F.isExc_ValueError PySem.F.notTuple_ValueError (by rw [isSubtype_type]; kernel_rfl) (hname _ _ _ F₃ ⟨rfl, ⟨ob, hob, hobc⟩, ?_⟩)
  rw [if_pos rfl]
  refine fly_flight (s := { s with heap := h₃ }) f₃ fun h₄ f₄ _ u₄ => ?_
  have hns₄ : h₄.Ns env.locals m := u₄.ns hns₃
  have tup₄ := ((tup.of_slots u₂).of_slots u₃).of_slots u₄
  refine wpAny_storeName_local (s := { s with heap := h₄ }) hn hns₄ (fun h₅ hns₅ hs₅ => ?_) hp
  obtain ⟨ot, nt, hot, hotc, hotd⟩ := tup₄
  obtain ⟨k1, k2, _, fl, oe, vs, T, oT, ts, he, ⟨hcls, h0⟩, hd, _⟩ := f₄
  obtain ⟨oL, esL, epL, hoL, hdL, _⟩ := hns₄
  have neL : e ≠ env.locals := fun q => by rw [q, hoL] at he; cases he; rw [hdL] at hd; cases hd
  have ntL : t ≠ env.locals := fun q => by rw [q, hoL] at hot; cases hot; rw [hdL] at hotd; cases hotd
  have none_of : ∀ c, B.get? c = none → h₀.get? c = none := fun c q => by
    cases r : h₀.get? c with
    | none => rfl
    | some o => rw [hold c o r] at q; cases q
  have F₅ : Fr h₀ env.locals h₅ (fun y => if y = n then some (.ref e) else m y) := ⟨hns₅, fun c o q => hs₅.extBut _ _ (fun r => by rw [r, hL₀] at q; cases q) (k1 _ _ (hold c o q)), F.above⟩
  have N₅ : News h₀ env.locals h₅ news := fun p hp => ⟨hs₅.extBut _ _ (N p hp).2.1 (k1 _ _ (hnews p hp)), (N p hp).2⟩
  have N₆ : News h₀ env.locals h₅ [(e, oe), (t, ot)] := fun p hp => by
    simp only [List.mem_cons, List.not_mem_nil, or_false] at hp
    rcases hp with rfl | rfl
    · exact ⟨hs₅.extBut _ _ neL he, neL, none_of _ k2⟩
    · exact ⟨hs₅.extBut _ _ ntL hot, ntL, none_of _ bt⟩
  exact k h₅ _ _ F₅ N₆ ⟨oe, ot, vs, nt, .head _, .tail _ (.head _), hcls, hd, h0, hotc, hotd⟩ N₅
theorem name_gone {n : Str} {pos : Pos} {news : List (Addr × Obj)} {Q : Unit → Shared → Prop} (hL : env.locals = L) (F : Fr h₀ L s.heap m) (N : News h₀ L s.heap news) (hl : env.kindOf n = some .local) (hp : (env.scope.kind == .class || (env.scope.kind == .module && env.locals != env.globals)) = false)
    (h : ∀ h' v, Fr h₀ L h' (fun x => if x = n then v else m x) → News h₀ L h' news → Q () { s with heap := h', toks := s.toks + 1 }) :
    wpAny (model prog w) A (do bindName env n .none; unbindBehindTheSuite env n pos) Q E s := by
  subst hL
  exact wpAny_nameGoes_keeps hl F.ns hp fun h' v hn hs => h h' v (F.set hn hs) (N.set hs)
noncomputable def rgObj (n : Int) (a t b : Tok) : Obj := { cls := .type "range", data := .fields #[.int 0 a, .int n t, .int 1 b] }
theorem range_one {n : Int} {t : Tok} {news : List (Addr × Obj)} {Q : Value → Shared → Prop} (F : Fr h₀ L s.heap m) (N : News h₀ L s.heap news)
    (h : ∀ D a b h' tk, Fr h₀ L h' m → News h₀ L h' ((D, rgObj n a t b) :: news) → Q (.ref D) { s with heap := h', toks := tk }) : wpAny (model prog w) A (call (.type "range") [.int n t]) Q E s := by
  refine call_range_1 (h _ s.toks (s.toks + 1) _ _ (F.keeps fun b o e => Heap.get?_push_of_some _ e) fun p hp => ?_)
  rcases List.mem_cons.mp hp with rfl | hp
  · exact ⟨Heap.get?_push_size _ rfl, Nat.ne_of_gt F.ns.lt, Heap.get?_none_of_le (Nat.le_trans F.above (Nat.le_of_lt F.ns.lt))⟩
  · exact ⟨Heap.get?_push_of_some _ (N p hp).1, (N p hp).2⟩
theorem rg_at {h : Heap} {news : List (Addr × Obj)} {D : Addr} {n : Int} {a t b : Tok} (N : News h₀ L h news) (hm : (D, rgObj n a t b) ∈ news) : IsRange h D 0 n 1 a t b := (N _ hm).1
end
end Mine
end
section
open PySem PySem.W PyProof.Rows PySem.Calls PyProof.Rows.LCg
set_option maxRecDepth 100000
namespace Mine
local macro_rules | `(tactic| k_ne) => `(tactic| k_extra "ne")
structure FxBox (p : Prop) : Prop where
  out : p
theorem slim_sub {m x1 x2 x3 x4 w x5 c4 c3 c2 c1 : Addr × Obj} {l : List (Addr × Obj)} : ∀ p ∈ [m, w, c4, c3, c2, c1], p ∈ m :: x1 :: x2 :: x3 :: x4 :: w :: x5 :: c4 :: c3 :: c2 :: c1 :: l := by
  intro p hp
  simp only [List.mem_cons, List.not_mem_nil, or_false] at hp ⊢
  rcases hp with h | h | h | h | h | h <;> simp [h]
theorem ne_cells {a b c d pw pd : Addr} (h : (a ≠ pw ∧ a ≠ pd) ∧ (b ≠ pw ∧ b ≠ pd) ∧ (c ≠ pw ∧ c ≠ pd) ∧ d ≠ pw ∧ d ≠ pd) : (@Ne Nat a pw) ∧ (@Ne Nat a pd) ∧ (@Ne Nat b pw) ∧ (@Ne Nat b pd) ∧ (@Ne Nat c pw) ∧ (@Ne Nat c pd) ∧ (@Ne Nat d pw) ∧ (@Ne Nat d pd) :=
  ⟨h.1.1, h.1.2, h.2.1.1, h.2.1.2, h.2.2.1.1, h.2.2.1.2, h.2.2.2.1, h.2.2.2.2⟩
theorem tail_sub {a1 a2 a3 a4 a5 a6 a7 a8 a9 a10 : Addr × Obj} {l : List (Addr × Obj)} : ∀ p ∈ [a1, a3, a9, a10], p ∈ a1 :: a2 :: a3 :: a4 :: a5 :: a6 :: a7 :: a8 :: a9 :: a10 :: l := by
  intro p hp
  simp only [List.mem_cons, List.not_mem_nil, or_false] at hp ⊢
  rcases hp with h | h | h | h <;> simp [h]
theorem sub_three {a b c : Addr × Obj} {l : List (Addr × Obj)} : ∀ p ∈ l, p ∈ a :: b :: c :: l := fun p hp => .tail _ (.tail _ (.tail _ hp))
theorem law_end {cl : Str → Option Addr} {mean : ExcName → Option Value} {args : List WData} {s₁ s' : Shared} {L : Addr} {m : Str → Option Value} {b : Bool} (hb : b = true) (F : Fr s₁.heap L s'.heap m) (hos : s'.os = s₁.os) (ab : AllBare s'.gens) :
    GoodWG PySem.Challenge.rw_sw0048_01.row.claim cl mean args s₁ (.ok (.ret (.bool b))) s' := by
  subst hb
  exact ⟨.inl ⟨_, _, [], rfl, fun _ => rfl, ReadsW.bool _, by first | rfl | wrow_post, fun _ => ⟨List.nodup_nil, fun _ hm => nomatch hm⟩⟩, .of_keep F.keep, hos, ab⟩
set_option maxHeartbeats 4000000 in
theorem law_holds : PySem.Challenge.rw_sw0048_01.Holds := hd (by
  k_with_none
  k_fill
  intro w s₀ s₁ mg mb G Y fa o pm cd doc dV kV ho hd hcd hD hmg hg args vals as hpre hlay hrd hwl hlo
  have KX := kIn_of Y
  have X := (Ground.X G).1
  have V := (Ground.X G).2
  try w_nolog (first | (have GL := glob_more (Ground.glob G (by first | k_qdec | decide +kernel)) V) | (have GL := glob_more (Ground.glob G (by decide +kernel)) V))
  refine Ground.open G ?_
  intro T B D TE TW
  try (refine guard_noD D (by decide +kernel) ?_; clear D)
  obtain ⟨_, _, M⟩ := bmod_of_top T
  have TA := at_of_top T
  try (obtain ⟨_, _, he, B0⟩ := based_of_top T rfl hmg ho hd; have he' : cd = _ := he; subst he'; clear he)
  clear hmg
  wrow_args hpre hlay hrd hwl hlo
  all_goals (
    first | refine callC_kw (enter_call ?_) | refine enter_call ?_ | refine callC_kw (enter_callW ?_) | refine enter_callW ?_ | w_how
    w_top on
    have K0 := below_caller (Top.heap T)
    w_call any ho hd hcd hD T F
    clear hd TA
    k_drop
    skip)
  (all_goals try k_fold)
  have hMk9 := kstMark
  skip
  skip
  k_with "ne" => first | exact cell_off (by k_asm) (by k_mem) (by assumption) (by k_mem) (by intro v9 h9; cases h9) | (refine neN ?_; (try dsimp only); omega)
  k_with "eval ListComp" => k_here; (lct_look; (refine LCt.ListComp_T (F₀ := by k_asm) (by with_unfolding_all rfl) (by decide) (by rfl) (by decide) (by rfl) ?_))
  k_with "call ref" =>
    first
    | ((with_reducible show wpAny _ _ (call (Value.ref 43) _) _ _ _); (refine draws_c _ _ _ _ _ _ _ _ _ _ _ _ _ _ _ _ _ _ _ _ _ _ _ _ _ (by k_asm) (by k_asm) (by k_asm) (by k_asm) (by k_asm) (by first | exact rfl | assumption) (by assumption) (by exact ⟨by assumption, by omega⟩) (by ktr_room) (by ktr_units) ?_); intro T9 pw9 pd9 wv9 ws9 nw9 its9 nd9 h9 tk9 F9 N9 l9 iw9 nw9' hp9; (have off9 := hp9.off); (have len9 := hp9.len); (simp only [List.cons_append, List.nil_append, List.map_cons, List.map_nil, List.forall_mem_cons, List.not_mem_nil, false_implies, implies_true, and_true] at N9 nw9' off9); (simp only [List.cons_append, List.nil_append] at l9); k_lt l9; (replace nw9' := ne_cells nw9'); (try dsimp only); (try k_fold); skip)
    | ((with_reducible show wpAny _ _ (call (Value.ref 69) _) _ _ _); (refine told_k (by k_asm) (by k_asm) (by k_asm) (by k_asm) (by k_mem) (by k_mem) (by k_asm) (by first | exact rfl | assumption) (by exact ⟨by assumption, iw9, its_ws hp9, its_short hp9⟩) (by ktr_room) (by ktr_units) ?_); intro To9 us9 ct9 ht9 tkt9 Ft9 Nt9 lt9 it9; (try k_lt lt9); (have tl9 := tieOut_len (toldR ws9) 5); (try dsimp only); (try k_fold); skip)
    | ((with_reducible show wpAny _ _ (call (Value.ref 62) _) _ _ _); (refine own_k (by k_asm) (by k_asm) (by k_asm) (by k_asm) (by k_mem) (by k_asm) (by first | exact rfl | assumption) (by exact ⟨iw9, its_ws hp9, its_short hp9⟩) (by ktr_room) (by ktr_units) ?_); intro Ow9 vs9 co9 ho9 tko9 Fo9 No9 lo9 io9; (try k_lt lo9); (have ol9 := tieOut_len (ownR ws9) 5); (try dsimp only); (try k_fold); skip)
    | ((with_reducible show wpAny _ _ (call (Value.ref 74) _) _ _ _); (refine shape_k (by k_asm) (by k_asm) (by k_asm) (by k_asm) (by k_mem) (by k_asm) (by first | exact rfl | assumption) (by exact ⟨by assumption, by first | assumption | rfl⟩) (by ktr_room) (by ktr_units) ?_); intro Sh9 ss9 cs9 hs9 tks9 Fs9 Ns9 ls9 is9; (try simp only [LCg.Off1, and_true] at ls9); (try dsimp only); (try k_fold); skip)
  k_with "eval DictComp" =>
    ((refine signs_c (by rfl) (by first | exact rfl | assumption) (by rfl) (by k_asm) (by k_asm) (by k_asm) (by exact sys_there (by assumption)) (by k_asm) ?_); intro D9 o9 hg9 tkg9 kv9 F9 N9 ld9 lo9 i9 sg9; (replace ld9 := off1_of ld9); (try simp only [LCg.Off1, and_true] at ld9); (try dsimp only); (try k_fold); skip)
  k_with "getMethod ref" =>
    k_here; (with_reducible show wpAny _ _ (getMethod (Value.ref _) (Str.ofString "get") _) _ _ _); (refine kdg_method (by k_asm) (by k_mem) i9 ?_)
  k_with "call builtin:dict.get" =>
    k_here; ((refine kdg_get2 (by k_asm) (by k_mem) i9 lo9 (intKind_is _ _ _ _) _ hsB ?_); (try dsimp only [Option.getD]); (try k_fold))
  k_with "binaryOp Add str str" =>
    k_here; (with_reducible show wpAny _ _ (binaryOp Operator.Add (Value.str _ _) (Value.str _ _)) _ _ _); ((refine SBL.add ?_ (by first | exact addM1 (by assumption) | exact addM2 (by assumption) (by assumption))); intro t9 k9 e9; clear e9; (try dsimp only); (try k_fold))
  k_with "compareOp NotEq ref ref" =>
    k_here; ((refine ne_strs (by exact News.isList (by k_asm) (by k_mem)) (by exact News.isList (by k_asm) (by k_mem)) iym9 iw9 (its_ok hp9) (by ke_room) ?_); (try dsimp only); (try k_fold))
  k_with "compareOp Eq ref ref" =>
    k_here; ((refine eq_nil_c (by exact News.isList (by k_asm) (by k_mem)) (by exact News.isList (by k_asm) (by k_mem)) it9 tl9 (by ke_room) ?_); (try dsimp only); (try k_fold))
  k_with "execs cons" =>
    ((with_reducible show wpAny _ _ (execs (Stmt.Assign _ _ (Pos.mk 187 _ _ _) :: _) _) _ _ _); (have fx1 := ne_cells3 nw9'); clear nw9'; (have fx2 := ne_cells2 om9); skip; (rename Fr _ _ _ _ => lF'); (rename News _ _ _ _ => lN'); (have sN9 := kst_newsOf lN' (l' := [_, _, _, _, _, _]) (by exact slim_sub)); (replace fx1 := FxBox.mk fx1); (replace fx2 := FxBox.mk fx2); (replace lF' := FxBox.mk lF'); (repeat (rename _ ∧ _ => hx9; clear hx9)); (repeat (rename Fr _ _ _ _ => hx9; clear hx9)); (have lF' := lF'.out); (have fx1 := fx1.out); (have fx2 := fx2.out); (try dsimp only); (try k_fold))
  k_with "execs cons" =>
    ((with_reducible show wpAny _ _ (execs (Stmt.Assign _ _ (Pos.mk 193 _ _ _) :: _) _) _ _ _); skip; (have S9 := seven_shapes ws9); (with_reducible rename IntsAre _ (shapeL (tieOut (toldR _) 5)) => isC); (with_reducible rename IntsAre _ (shapeL (List.map _ _)) => isL); (generalize shapeL (tieOut (toldR ws9) 5) = chL at S9 isC); (generalize shapeL (List.map _ _) = laL at S9 isL); (have f9 := seven_facts S9); (have f9p := f9.pos); (have f9l := f9.le); (have f9i := f9.idx); (have lenC := isC.length); (rename News _ _ _ _ => lN'); (rename Fr _ _ _ _ => lF'); (have sN9 := kst_newsOf lN' (l' := [(Sh9, _), (_, listOf _ _), (_, _), (_, _)]) (by exact tail_sub)); clear lN'; (refine tail_cut (cs := chL) lF' sN9 ?_ ?_); rotate_left; (rintro ⟨dr9, da9, vr9, va9, cr9, ca9, rs9, ag9⟩ h9 tk9 m9 ok9 F9 N9; (try dsimp only [kstB, TSig.nms, TSig.led] at F9 N9); (obtain ⟨irow9, iagain9, tell9, ne19, ne29, len9⟩ := ok9); (dsimp only at irow9 iagain9 tell9 ne19 ne29 len9); (have nB9 := cell_off N9 (.tail _ (.tail _ (.tail _ (.tail _ (.head _))))) (by assumption) (.tail _ (.tail _ (.head _))) nofun); (have nC9 := cell_off N9 (.tail _ (.tail _ (.tail _ (.tail _ (.head _))))) (by assumption) (.tail _ (.tail _ (.tail _ (.head _)))) nofun); clear lF' sN9; (repeat (rename _ ∧ _ => hx9; clear hx9)); (have val9 := tell9.vals); (have snd9 := tell9.ok); (with_reducible rename (Shared.gens _ = #[]) => hgens9); (have ab9 := AllBare.of_eq hgens9); (have lenS9 : (chL ++ ag9).length ≤ 9 := val9 ▸ GS.vals_len 9 _)); rotate_right; (all_goals (try dsimp only)); (all_goals (try k_fold)); skip)
  k_with "subscriptTail Name UnaryOp ref int" =>
    k_here; (refine sub_last (by k_asm) (by k_mem) (by assumption) (by assumption) ?_; intro t9; (try dsimp only); (try k_fold))
  k_with "call builtin:list.index" =>
    k_here; ((refine index_list_ints (by exact News.isList (by k_asm) (by k_mem)) (by assumption) f9.lay f9.mem ?_; (try dsimp only); (try k_fold)))
  k_with "CutNP" =>
    ((show CutN _ _ _ _ _ _ _); first
    | (exfalso; omega)
    | ((refine tail_end (by assumption) (by rfl) (by rfl) (by rfl) (by k_asm) (by k_mem) (by k_mem) (by intro p9 h9; (repeat (first | exact h9 | apply List.Mem.tail))) (by assumption) (by first | exact .nil | assumption) (by with_reducible first | exact row_0 S9 | exact row_1 S9 | exact row_2 S9) (by exact .tail _ (.tail _ (.head _))) (by assumption) ?_); ((try simp only [List.length_append, List.length_take, List.length_cons, List.length_nil]); omega)))
  k_with "CompEnd" =>
    ((refine LCg.CompEnd.intro (by assumption) (by assumption) _ (by exact fun _ h9 => h9) (by first | assumption | (simp only [LCg.Off3, and_true]; assumption)) (by first | exact True.intro | lcg_src | assumption) ?_); (try exact ⟨rfl, _, rfl⟩))
  k_with "exec Assign cons ListComp" =>
    k_here; ((rename Fr _ _ _ _ => lF'); (rename News _ _ _ _ => lN'); (refine made_assign (its := its9) lF' lN' (by rfl) (by rfl) (by with_unfolding_all rfl) (by with_unfolding_all rfl) (by decide) (by rfl) (by decide) (by rfl) (by rfl) (by rfl) (by decide) (by rfl) (by rfl) (by rfl) (by rfl) (by rfl) (by decide) (by rw [len9, sizeLine_eq]; decide) (by k_mem) (by intro i9 hi9; have hz9 := mem_itLed hi9; simp only [List.mem_cons]; simp [hz9]) ?_ ?_); skip; (rotate_left; (intro Dm9 ysm9 hm9 tkm9 iysm9 Fm9 Nm9 om9; (have iym9 : StrsAre ysm9 ws9 := hp9.wd ▸ iysm9); (try simp only [LCg.Off1, and_true] at om9); (try dsimp only)); rotate_right); (intro itB I' oI' C' oC' D' m' ys' h' tk' E' hitB hC' hx1' hx2' hx3' F' N' off' ne' hMark'; (have okB := hp9.ok itB hitB); (have okB0 := okB.1); (have okB1 := okB.2.1); (have okB2 := lead_len okB.2.2.1); (have okB3 := lead_len okB.2.2.2); (obtain ⟨tsB, hsB⟩ := sg9 itB.n okB0 okB1); (simp only [LCg.Off3, and_true] at off')); (all_goals (try k_fold)))
  k_with "eval ListComp" => k_here; ((with_reducible show wpAny _ _ (eval (Expr.ListComp (Expr.BinOp _ _ (Expr.Subscript _ _ _) _) _ _ _) _) _ _ _); (refine LCg.ListComp_U (F₀ := by k_asm) (by with_unfolding_all rfl) (by decide) (by rfl) (by decide) (by rfl) ?_))
  k_with "CompSrc" =>
    k_here; ((refine LCg.CompSrc.range (n := 5) (by rfl) (by k_asm) (by k_asm) (by assumption) (by decide) (by rfl) (by exact Nat.le_of_ble_eq_true rfl) ?_); intro g'; (refine kcf_range (fun i => 31 - 2 ^ i.toNat - (tieOut (ownR ws9) 5).getD i.toNat 0) (fun kI t' I' oI' C' oC' D' m' ys' h' tk' E' hlo' hhi' hC' hx' F' N' off' ne' hMark' => ?_) ?_); (all_goals (try (simp only [LCg.Off3, and_true] at off'))); (all_goals (try k_fold)))
  k_with "KCfEl" =>
    (refine kcf_el (by rfl) (by rfl) (by rfl))
  k_with "eval ListComp" => k_here; ((with_reducible show wpAny _ _ (eval (Expr.ListComp _ _ _ (Pos.mk 200 _ _ _)) _) _ _ _); (rename Fr _ _ _ _ => lF'); (rename News _ _ _ _ => lN'); (refine sizes_eval (prog := prog) (Rw := dr9) (N := 9) (cur := .at none rs9) lF' lN' (by first | rfl | assumption) (by ke_room) (Top.nolimit (by k_asm)) (by rfl) (by rfl) (by rfl) (by rfl) (by decide) (by with_unfolding_all rfl) (by decide) (by decide) (by repeat (first | exact nl_nil | refine nl_cons (by first | exact nl_list | exact nl_cell (by assumption)) ?_)) ⟨_, .head _⟩ ?_ ?_); skip; rotate_left; skip; (intro DS9 ysS9 hS9 tkS9 gensS9 isS9 abS9 FS9 NS9 offS9; skip; rw [val9] at isS9; skip; have nD9 := cell_off NS9 (.tail _ (.tail _ (.tail _ (.tail _ (.tail _ (.head _)))))) (by assumption) (.head _) nofun; clear offS9; (try dsimp only); skip; (try k_fold)); rotate_right; skip)
  k_with "call ref" =>
    ((rename Fr _ _ _ _ => lF'); (rename News _ _ _ _ => lN'); (refine gen_c _ _ _ _ _ _ _ _ _ _ _ _ _ _ lF' (by k_asm) (by k_asm) (by ke_room) (by exact News.isList lN' (by k_mem)) (by exact (News.fresh lN' (by k_mem))) (by assumption) (by assumption) ?_); intro hG9 tkG9 gsG9 bG9 upG9 live9; have F9' := lF'.keeps upG9; have N9' := lN'.keeps upG9; have ltG9 := lt_news lN'; have LG9 := lF'.ns.lt)
  k_with "call type:zip" =>
    k_here; (refine zip_call (by rfl) (by rfl) (by exact upG9 _ _ (by assumption)) F9' N9' (live9 _ (by rfl) 9) ltG9 LG9 (Nat.lt_succ_self _) ⟨_, _, _, rfl⟩ (fun g9' hq9 => bare_after ab9 bG9 hq9))
  k_with "exec Assign cons ListComp" =>
    k_here; ((with_reducible show wpAny _ _ (exec (Stmt.Assign _ _ (Pos.mk 203 _ _ _)) _) _ _ _); (rename Fr _ _ _ _ => lF'); (rename News _ _ _ _ => lN'); (refine cols_assign (fun k => ((gtL chL k).length : Int)) (by rfl) (by rfl) lF' lN' (by with_unfolding_all rfl) (by with_unfolding_all rfl) (by rfl) (fun _ _ => rfl) (fun _ => rfl) (fun _ _ => by with_unfolding_all rfl) (by decide) (by rfl) (by rfl) ?_ ?_ ?_); rotate_left; (intro iB CB oCB IB DB kcB okcB tB ysB hB tkB EB ltB dB FB NB; (try dsimp only); (try k_fold)); rotate_left; (intro DK9 ysK9 hK9 tkK9 isK9 FK9 NK9; (try dsimp only); (try k_fold)); rotate_left; skip)
  k_with "RgSrc" =>
    (exact RgSrc.intro (by assumption) (by assumption) (by assumption))
  k_with "ColEnd" =>
    ((refine ColEnd.intro (by assumption) (by assumption) (by intro p9 h9; (repeat (first | exact h9 | apply List.Mem.tail))) ?_))
  k_with "call builtin:len" =>
    k_here; ((refine len_lst (by k_asm) (by k_mem) (by with_reducible assumption) (Nat.le_trans (gt_len _ _ _) (by simp only [List.length_nil]; omega)) ?_))
  k_with "CompSrcT" =>
    k_here; ((refine LCt.CompSrcT.ledger (by rfl) (by k_asm) (by k_asm) (by k_mem) (by kcf_size) ?_); intro g'; first
    | (refine kci_list (gtG (iB : Int)) iX9 (fun kI t' I' oI' C' oC' D' m' ys' l' h' tk' E' hk' hI' hC' hx' F' N' off' ne' => ?_) ?_ (gtG_grows _))
    | (refine kci_list posG isK9 (fun kI t' I' oI' C' oC' D' m' ys' l' h' tk' E' hk' hI' hC' hx' F' N' off' ne' => ?_) ?_ posG_grows); (all_goals (try (simp only [LCg.Off3, and_true] at off'))); (all_goals (try ((show KPfMark → _); intro hMark'))); (all_goals (try k_fold)))
  k_with "KCiEl" =>
    (with_reducible first | exact kci_el (gt_yes (by assumption)) rfl rfl | exact kci_el (pos_yes (by assumption)) rfl rfl)
  k_with "KCiNo" =>
    (with_reducible first | exact kci_no (gt_no (by assumption)) rfl | exact kci_no (pos_no (by assumption)) rfl)
  k_with "exec Try" =>
    k_here; (refine wpAny_Try_except ?_)
  k_with "eval ListComp" => k_here; ((with_reducible show wpAny _ _ (eval (Expr.ListComp _ _ _ (Pos.mk 208 _ _ _)) _) _ _ _); (rename Fr _ _ _ _ => lF'); (rename News _ _ _ _ => lN'); (refine raise_eval (prog := prog) lF' lN' (by rfl) (by rfl) (by rfl) (by ke_room) (Top.nolimit (by k_asm)) (by rfl) (by with_unfolding_all rfl) (by decide) (by decide) (by repeat (first | exact nl_nil | refine nl_cons (by first | exact nl_list | exact nl_cell (by assumption)) ?_)) ?_ ?_); rotate_left; (intro eB tB BB hB9 tkB9 gensB9 flyB tupB btB holdB newsB nsB abB; obtain ⟨tkX9, tupB⟩ := tupB; (try dsimp only); (try k_fold)); rotate_left; skip)
  k_with "call type:range" =>
    k_here; ((with_reducible show wpAny _ _ (call (Value.type "range") [Value.int 2 _]) _ _ _); (rename Fr _ _ _ _ => lF'); (rename News _ _ _ _ => lN'); (refine range_one lF' lN' ?_); clear lF' lN'; intro DR9 aR9 bR9 hR9 tkR9 FR9 NR9; (try dsimp only); (try k_fold))
  k_with "call ref" =>
    ((rename Fr _ _ _ _ => lF'); (rename News _ _ _ _ => lN'); (refine gen_cr _ _ _ _ _ _ rs9 _ _ _ _ _ _ _ lF' (by k_asm) (by k_asm) (by ke_room) (by exact News.isList lN' (by k_mem)) (by assumption) ?_); intro hG9 tkG9 gsG9 bG9 upG9 live9; have F9' := lF'.keeps upG9; have N9' := lN'.keeps upG9; have ltG9 := lt_news lN'; have LG9 := lF'.ns.lt; (try dsimp only); (try k_fold))
  k_with "call type:zip" =>
    k_here; ((refine zip_call_err (N := 2) (by rfl) (by rfl) (by decide) (rg_at N9' (by k_mem)) F9' (kst_newsOf N9' (by exact sub_three)) (live9 _ _ _ (by rfl) (by rfl) (by rfl) (by exact fun h9 => nomatch h9) (by exact Heap.get?_none_of_le (Fr.above F9')) LG9) (fun p9 h9 => ltG9 p9 (sub_three p9 h9)) LG9 (Nat.lt_succ_self _) (ltG9 _ (.head _)) ⟨_, _, _, rfl⟩ (fun g9' hq9 => bare_after abS9 bG9 hq9)))
  k_with "noteFrame ref" =>
    ((refine catch_law (by rfl) (by rfl) (by rfl) lF' lN' flyB tupB btB holdB newsB nsB ?_ (by rfl) (by rfl) ?_); (focus (intro s9 E9 Q9 F9n hq9; exact nameX_B F9n (by k_asm) (by k_asm) (by k_is) (by boot_fast) (by decide) hq9 (by rfl) (by rfl))); clear lF' lN'; intro h' n₂ tk' F' N₂ G' N'; (try dsimp only); (try k_fold); skip)
  k_with "bind" =>
    ((refine name_gone (by rfl) (by k_asm) (by k_asm) (by rfl) (by rfl) ?_); intro h' v9 F' N'; (try dsimp only); (try k_fold))
  k_with "subscriptTail Name Slice ref ref" =>
    k_here; (first
    | (refine kmk_slice_ints (by k_asm) (by k_asm) (by exact News.isList (by k_asm) (by k_mem)) (by kmk_part) (by kmk_part) isS9 (from_len isS9) rfl ?_ (by with_unfolding_all rfl) (by kmk_pure) (nine_sz isS9 lenS9))
    | (refine kmk_slice_ints (by k_asm) (by k_asm) (by exact News.isList (by k_asm) (by k_mem)) (by kmk_part) (by kmk_part) isS9 (upto_len isS9) rfl ?_ (by with_unfolding_all rfl) (by kmk_pure) (nine_sz isS9 lenS9)); intro DX9 wsX9 hX9 FX9 NX9 lX9 iX9 cX9 leX9; (try dsimp only); (try k_fold))
  k_with "exec Assign cons ListComp" =>
    k_here; ((first | (with_reducible show wpAny _ _ (exec (Stmt.Assign _ _ (Pos.mk 200 _ _ _)) _) _ _ _) | (with_reducible show wpAny _ _ (exec (Stmt.Assign _ _ (Pos.mk 208 _ _ _)) _) _ _ _)); refine assign_comp (by with_unfolding_all rfl) ?_)
  k_with "GoodWG" =>
    (first | (exfalso; exact absurd (cols_ok S9) (by assumption)) | exact law_end (by rfl) (by assumption) (by rfl) (by assumption))
  k_steps
  skip
  all_goals (skip; fail "stop"))
end Mine
end
theorem PySem.Challenge.cw_sw0048_01_holds : PySem.Challenge.rw_sw0048_01.Holds :=
  Mine.law_holds
