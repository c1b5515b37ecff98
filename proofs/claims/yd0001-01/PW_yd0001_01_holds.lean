import PyProof.Rows.All
import Wide.All
import OpenK.AllK
import Wide.FinOn
import KE.BitLaws
import PySem.Challenge.RW_yd0001_01
open PySem PySem.W PyProof.Rows
set_option Elab.async false
set_option maxRecDepth 100000
set_option maxHeartbeats 8000000
namespace Mine
open_top hd for PySem.Challenge.rw_yd0001_01
end Mine

namespace Mine

theorem xor_add (m n : Nat) : (m ^^^ n) + 2 * (m &&& n) = m + n := by
  have h := nat_or_add_and m n
  have h2 : (m ^^^ n) + (m &&& n) = m ||| n := by
    have e := nat_or_add_and (m ^^^ n) (m &&& n)
    have z : (m ^^^ n) &&& (m &&& n) = 0 := by
      apply Nat.eq_of_testBit_eq; intro i
      simp only [Nat.testBit_and, Nat.testBit_xor, Nat.zero_testBit]
      cases m.testBit i <;> cases n.testBit i <;> rfl
    have o : (m ^^^ n) ||| (m &&& n) = m ||| n := by
      apply Nat.eq_of_testBit_eq; intro i
      simp only [Nat.testBit_and, Nat.testBit_xor, Nat.testBit_or]
      cases m.testBit i <;> cases n.testBit i <;> rfl
    rw [z, o] at e
    omega
  omega
theorem and_cast (m n : Nat) : Builtin.bitAnd (m : Int) (n : Int) = ((m &&& n : Nat) : Int) := by
  rw [bitAnd_pp (Int.natCast_nonneg _) (Int.natCast_nonneg _)]; rfl
theorem xor_cast (m n : Nat) : Builtin.bitXor (m : Int) (n : Int) = ((m ^^^ n : Nat) : Int) := by
  rw [bitXor_and, and_cast]
  have := xor_add m n
  omega

def selOne (cw x y : Int) : Int := Builtin.bitXor x (Builtin.bitAnd cw (Builtin.bitXor x y))
def selRow (cw : Int) (xs ys : List Int) : List Int := List.zipWith (selOne cw) xs ys
def bt (x : Int) (b : Nat) : Int := x / 2 ^ b % 2
def In (ns : List Int) : Prop := ∀ n ∈ ns, 0 ≤ n ∧ n < 256

theorem bt_cast (n b : Nat) : bt (n : Int) b = if n.testBit b then 1 else 0 := by
  have e : bt (n : Int) b = ((n / 2 ^ b % 2 : Nat) : Int) := by unfold bt; simp
  rw [e, Nat.testBit_eq_decide_div_mod_eq]
  have : n / 2 ^ b % 2 < 2 := Nat.mod_lt _ (by decide)
  by_cases h : n / 2 ^ b % 2 = 1
  · simp [h]
  · have h0 : n / 2 ^ b % 2 = 0 := by omega
    simp [h0]
theorem bt_01 (x : Int) (b : Nat) : bt x b = 0 ∨ bt x b = 1 := by
  unfold bt
  have h1 := Int.emod_nonneg (x / 2 ^ b) (by decide : (2 : Int) ≠ 0)
  have h2 := Int.emod_lt_of_pos (x / 2 ^ b) (by decide : (0 : Int) < 2)
  omega

theorem selOne_cast (c x y : Nat) : selOne (c : Int) (x : Int) (y : Int) = ((x ^^^ (c &&& (x ^^^ y)) : Nat) : Int) := by
  unfold selOne
  rw [xor_cast, and_cast, xor_cast]
theorem selOne_bt {c x y : Int} (hc : 0 ≤ c) (hx : 0 ≤ x) (hy : 0 ≤ y) (b : Nat) : bt (selOne c x y) b = if bt c b = 1 then bt y b else bt x b := by
  obtain ⟨c, rfl⟩ := Int.eq_ofNat_of_zero_le hc
  obtain ⟨x, rfl⟩ := Int.eq_ofNat_of_zero_le hx
  obtain ⟨y, rfl⟩ := Int.eq_ofNat_of_zero_le hy
  rw [selOne_cast, bt_cast, bt_cast, bt_cast, bt_cast]
  simp only [Nat.testBit_xor, Nat.testBit_and]
  cases c.testBit b <;> cases x.testBit b <;> cases y.testBit b <;> rfl
theorem selOne_in {c x y : Int} (hc : 0 ≤ c ∧ c < 256) (hx : 0 ≤ x ∧ x < 256) (hy : 0 ≤ y ∧ y < 256) : 0 ≤ selOne c x y ∧ selOne c x y < 256 := by
  obtain ⟨c, rfl⟩ := Int.eq_ofNat_of_zero_le hc.1
  obtain ⟨x, rfl⟩ := Int.eq_ofNat_of_zero_le hx.1
  obtain ⟨y, rfl⟩ := Int.eq_ofNat_of_zero_le hy.1
  rw [selOne_cast]
  have hx' : x < 2 ^ 8 := by omega
  have hy' : y < 2 ^ 8 := by omega
  have hc' : c < 2 ^ 8 := by omega
  have h := Nat.xor_lt_two_pow hx' (Nat.and_lt_two_pow c (Nat.xor_lt_two_pow hx' hy'))
  omega

theorem bt_mod (x : Int) {b : Nat} (hb : b < 8) : bt (x % 256) b = bt x b := by
  have h : b = 0 ∨ b = 1 ∨ b = 2 ∨ b = 3 ∨ b = 4 ∨ b = 5 ∨ b = 6 ∨ b = 7 := by omega
  unfold bt
  rcases h with rfl | rfl | rfl | rfl | rfl | rfl | rfl | rfl <;> omega
theorem fmod_256 (x : Int) : Int.fmod x 256 = x % 256 := Int.fmod_eq_emod_of_nonneg _ (by decide)

theorem bt_f (x : Int) (b : Nat) : (x.fdiv (2 ^ (0 + (b : Int)).toNat)).fmod 2 = bt x b := by
  have e : (0 + (b : Int)).toNat = b := by omega
  rw [e, Int.fmod_eq_emod_of_nonneg _ (by decide), Int.fdiv_eq_ediv_of_nonneg _ (Int.pow_nonneg (by decide))]
  rfl

def bsum (f : Nat → Int) : Nat → Int
  | 0 => 0
  | n + 1 => bsum f n + f n * 2 ^ n
theorem bsum_congr {f g : Nat → Int} : ∀ {n : Nat}, (∀ b, b < n → f b = g b) → bsum f n = bsum g n
  | 0, _ => rfl
  | n + 1, h => by
    show bsum f n + f n * 2 ^ n = bsum g n + g n * 2 ^ n
    rw [bsum_congr fun b hb => h b (by omega), h n (by omega)]
theorem bsum_bt {x : Int} (h0 : 0 ≤ x) (h1 : x < 256) : bsum (bt x) 8 = x := by
  simp only [bsum, bt]
  omega
theorem bsum_in {f : Nat → Int} (h : ∀ b, f b = 0 ∨ f b = 1) : 0 ≤ bsum f 8 ∧ bsum f 8 < 256 := by
  have h0 := h 0; have h1 := h 1; have h2 := h 2; have h3 := h 3; have h4 := h 4; have h5 := h 5; have h6 := h 6; have h7 := h 7
  simp only [bsum]
  omega

theorem In.getD {ns : List Int} (h : In ns) (j : Nat) : 0 ≤ ns.getD j 0 ∧ ns.getD j 0 < 256 := by
  rw [List.getD_eq_getElem?_getD]
  by_cases hj : j < ns.length
  · rw [List.getElem?_eq_getElem hj]; exact h _ (List.getElem_mem hj)
  · rw [List.getElem?_eq_none (by omega)]; exact ⟨by decide, by decide⟩
theorem In.of_getD {ns : List Int} (h : ∀ j, j < ns.length → 0 ≤ ns.getD j 0 ∧ ns.getD j 0 < 256) : In ns := by
  intro n hn
  obtain ⟨j, hj, rfl⟩ := List.getElem_of_mem hn
  have := h j hj
  rwa [List.getD_eq_getElem?_getD, List.getElem?_eq_getElem hj] at this
theorem list_ext {xs ys : List Int} (hl : xs.length = ys.length) (h : ∀ j, j < xs.length → xs.getD j 0 = ys.getD j 0) : xs = ys := by
  apply List.ext_getElem hl
  intro i h1 h2
  have := h i h1
  rwa [List.getD_eq_getElem?_getD, List.getD_eq_getElem?_getD, List.getElem?_eq_getElem h1, List.getElem?_eq_getElem h2] at this
theorem selRow_length (cw : Int) {xs ys : List Int} (h : ys.length = xs.length) : (selRow cw xs ys).length = xs.length := by simp [selRow, h]
theorem selRow_getD (cw : Int) {xs ys : List Int} (h : ys.length = xs.length) {j : Nat} (hj : j < xs.length) : (selRow cw xs ys).getD j 0 = selOne cw (xs.getD j 0) (ys.getD j 0) := by
  have hy : j < ys.length := by omega
  simp only [List.getD_eq_getElem?_getD, selRow, List.getElem?_zipWith, List.getElem?_eq_getElem hj, List.getElem?_eq_getElem hy]
  rfl
theorem selRow_in {cw : Int} {xs ys : List Int} (h : ys.length = xs.length) (hc : 0 ≤ cw ∧ cw < 256) (hx : In xs) (hy : In ys) : In (selRow cw xs ys) := by
  apply In.of_getD
  intro j hj
  rw [selRow_length _ h] at hj
  rw [selRow_getD _ h hj]
  exact selOne_in hc (hx.getD j) (hy.getD j)

/-- where the turning stands: what is below i is chosen. -/
def SelJ (cw : Int) (xs ys : List Int) (i : Nat) (ns : List Int) : Prop := ns.length = xs.length ∧ ∀ j, j < i → ns.getD j 0 = selOne cw (xs.getD j 0) (ys.getD j 0)
theorem SelJ.zero {cw : Int} {xs ys ns : List Int} (h : ns.length = xs.length) : SelJ cw xs ys 0 ns := ⟨h, fun _ h => absurd h (Nat.not_lt_zero _)⟩
theorem SelJ.succ {cw : Int} {xs ys ns : List Int} {i : Nat} (h : SelJ cw xs ys i ns) (hi : i < xs.length) {v : Int} (hv : v = selOne cw (xs.getD i 0) (ys.getD i 0)) : SelJ cw xs ys (i + 1) (ns.set i v) := by
  refine ⟨by rw [List.length_set]; exact h.1, fun j hj => ?_⟩
  by_cases e : j = i
  · subst e
    rw [List.getD_eq_getElem?_getD, List.getElem?_set_self (by rw [h.1]; exact hi)]
    exact hv
  · rw [List.getD_eq_getElem?_getD, List.getElem?_set_ne (fun x => e x.symm), ← List.getD_eq_getElem?_getD]
    exact h.2 j (by omega)
theorem SelJ.done {cw : Int} {xs ys ns : List Int} (h : SelJ cw xs ys xs.length ns) (hl : ys.length = xs.length) : ns = selRow cw xs ys := by
  apply list_ext
  · rw [h.1, selRow_length _ hl]
  · intro j hj
    rw [h.1] at hj
    rw [h.2 j hj, selRow_getD _ hl hj]
end Mine

namespace Mine
/-- the state after k choices. -/
def stAt (rs : List (List Int)) (cs : List Int) : Nat → List Int
  | 0 => rs.getD 0 []
  | k + 1 => selRow (Int.fmod (-(cs.getD (k + 1) 0)) 256) (stAt rs cs k) (rs.getD (k + 1) [])
/-- the last row that bit b was taken from. -/
def ownAt (ms : List Int) (b : Nat) : Nat → Nat
  | 0 => 0
  | k + 1 => if bt (ms.getD (k + 1) 0) b = 1 then k + 1 else ownAt ms b k
theorem ownAt_le (ms : List Int) (b : Nat) : ∀ k, ownAt ms b k ≤ k
  | 0 => Nat.le_refl _
  | k + 1 => by
    show (if bt (ms.getD (k + 1) 0) b = 1 then k + 1 else ownAt ms b k) ≤ k + 1
    have := ownAt_le ms b k
    split <;> omega
theorem cw_in' (c : Int) : 0 ≤ Int.fmod (-c) 256 ∧ Int.fmod (-c) 256 < 256 := by
  rw [fmod_256]; omega
theorem stAt_len {rs : List (List Int)} {cs : List Int} {mn : Nat} : ∀ {k : Nat}, (∀ j, j ≤ k → (rs.getD j []).length = mn) → (stAt rs cs k).length = mn
  | 0, h => h 0 (Nat.le_refl _)
  | k + 1, h => by
    have i := stAt_len (cs := cs) (k := k) fun j hj => h j (by omega)
    show (selRow _ (stAt rs cs k) (rs.getD (k + 1) [])).length = mn
    rw [selRow_length _ (by rw [h _ (Nat.le_refl _), i]), i]
theorem stAt_in {rs : List (List Int)} {cs : List Int} {mn : Nat} : ∀ {k : Nat}, (∀ j, j ≤ k → (rs.getD j []).length = mn) → (∀ j, j ≤ k → In (rs.getD j [])) → In (stAt rs cs k)
  | 0, _, h => h 0 (Nat.le_refl _)
  | k + 1, l, h => by
    have i := stAt_in (cs := cs) (k := k) (fun j hj => l j (by omega)) fun j hj => h j (by omega)
    have il := stAt_len (cs := cs) (k := k) fun j hj => l j (by omega)
    exact selRow_in (by rw [l _ (Nat.le_refl _), il]) (cw_in' _) i (h _ (Nat.le_refl _))
theorem stAt_bt {rs : List (List Int)} {cs ms : List Int} {mn at' b : Nat} (ha : at' < mn) : ∀ {k : Nat}, (∀ j, j ≤ k → (rs.getD j []).length = mn) → (∀ j, j ≤ k → In (rs.getD j [])) → (∀ j, j ≤ k → ms.getD j 0 = Int.fmod (-(cs.getD j 0)) 256) →
    bt ((stAt rs cs k).getD at' 0) b = bt ((rs.getD (ownAt ms b k) []).getD at' 0) b
  | 0, _, _, _ => rfl
  | k + 1, l, h, hm => by
    have i := stAt_bt (cs := cs) (ms := ms) (b := b) ha (k := k) (fun j hj => l j (by omega)) (fun j hj => h j (by omega)) (fun j hj => hm j (by omega))
    have il := stAt_len (cs := cs) (k := k) fun j hj => l j (by omega)
    have ii := stAt_in (cs := cs) (k := k) (fun j hj => l j (by omega)) fun j hj => h j (by omega)
    show bt ((selRow (Int.fmod (-(cs.getD (k + 1) 0)) 256) (stAt rs cs k) (rs.getD (k + 1) [])).getD at' 0) b = bt ((rs.getD (if bt (ms.getD (k + 1) 0) b = 1 then k + 1 else ownAt ms b k) []).getD at' 0) b
    rw [selRow_getD _ (by rw [l _ (Nat.le_refl _), il]) (by rw [il]; exact ha), selOne_bt (cw_in' _).1 (ii.getD _).1 ((h _ (Nat.le_refl _)).getD _).1, hm _ (Nat.le_refl _)]
    split
    · rfl
    · exact i
def toldAt (rs : List (List Int)) (ms : List Int) (tn at' : Nat) : Int := bsum (fun b => bt ((rs.getD (ownAt ms b tn) []).getD at' 0) b) 8
theorem toldAt_in (rs : List (List Int)) (ms : List Int) (tn at' : Nat) : 0 ≤ toldAt rs ms tn at' ∧ toldAt rs ms tn at' < 256 := bsum_in fun _ => bt_01 _ _
theorem told_all {rs : List (List Int)} {cs ms : List Int} {mn tn : Nat} (l : ∀ j, j ≤ tn → (rs.getD j []).length = mn) (h : ∀ j, j ≤ tn → In (rs.getD j [])) (hm : ∀ j, j ≤ tn → ms.getD j 0 = Int.fmod (-(cs.getD j 0)) 256) :
    stAt rs cs tn = (List.range mn).map (toldAt rs ms tn) := by
  have il := stAt_len (cs := cs) l
  have ii := stAt_in (cs := cs) l h
  apply list_ext
  · simp [il]
  · intro j hj
    rw [il] at hj
    have e : ((List.range mn).map (toldAt rs ms tn)).getD j 0 = toldAt rs ms tn j := by simp [List.getD_eq_getElem?_getD, hj]
    rw [e, ← bsum_bt (ii.getD j).1 (ii.getD j).2]
    exact bsum_congr fun b _ => stAt_bt hj l h hm
end Mine

namespace Mine
def Tag (_ : OpenLaw) (P : Prop) : Prop := P
def pick (ns : List Int) (spot size : Int) : Int := Int.fmod (if spot < (ns.length : Int) then ns.getD spot.toNat 0 else spot * spot * 13 + spot * 7 + 5) size

theorem pick_c (w : World) (p : Program) (loose : List Str) (mean : ExcName → Option Value) (mg mb : Str → Option Value) :
   Tag PySem.Challenge.rw_yd0001_01 (∀ (news : List (Addr × Obj)) (l : Addr) (vs : List Value) (ns : List Int) (spot size : Int) (t1 t2 : Tok),
    CbClaim PySem.Challenge.rw_yd0001_01.prog w (hd.heap_39 w.params) p loose mean mg mb 28 news [(l, vs, ns)] (0 ≤ spot ∧ spot < 1000 ∧ 0 < size ∧ size < 10000) [.ref l, .int spot t1, .int size t2] (fun t => .int (pick ns spot size) t)) := by
  k_fill
  unfold Tag
  dsimp only [CbClaim, CbLists, CbRet]; intros; rename_i hret
  refine wpAny_call ?_
  k_dflt cell_enter
  k_steps
  all_goals (refine cb_retI hret ?_ (by assumption) (by assumption))
  · rw [pick, if_pos (by assumption)]
  · rw [pick, if_neg (by assumption)]

theorem pick_r {w : World} {p : Program} {loose : List Str} {mean : ExcName → Option Value} {mg mb : Str → Option Value} {news : List (Addr × Obj)} {l : Addr} {vs : List Value} {ns : List Int} {spot size : Int} {t1 t2 : Tok}
    {dp un : Nat} {gd : Option (List Code)} {cn : Str} {cs : Scope} {a : Addr} {ccd : Value} {cl : List (Str × Addr)} {outer : List Env} {A₀ : Around} {base h₀ : Heap} {L : Addr} {m : Str → Option Value} {s : Shared} {Q E : Value → Shared → Prop}
    (k1 : Below A₀ base outer h₀) (k2 : Fr h₀ L s.heap m) (k3 : (hd.heap_39 w.params).In h₀) (k4 : News h₀ L s.heap news) (k5 : Top p loose mean mg mb h₀) (k6 : cs.kind = .function)
    (k7 : base.IsList l vs.toArray) (k8 : IntsAre vs ns) (k9 : ns.length < 2 ^ 62) (k10 : 0 ≤ spot ∧ spot < 1000 ∧ 0 < size ∧ size < 10000) (k11 : dp + 1 < recursionLimit) (k12 : un + 8 < cLine)
    (k : ∀ (t : Tok) (h' : Heap) (tk' : Nat), Fr h₀ L h' m → News h₀ L h' news → Q (.int (pick ns spot size) t) { s with heap := h', toks := tk' }) :
    wpAny (model PySem.Challenge.rw_yd0001_01.prog w) (ktrTop dp un gd cn cs L a ccd cl outer) (call (.ref 28) [.ref l, .int spot t1, .int size t2]) Q E s :=
  pick_c w p loose mean mg mb news l vs ns spot size t1 t2 dp un gd cn cs a ccd cl outer A₀ base h₀ L m s Q E k1 k2 k3 k4 k5 k6 k7 k8 k9 k10 k11 k12 k

end Mine

namespace Mine
def rowOf (ns : List Int) (spot : Int) (many : Nat) (size : Int) : List Int := (rangeKs 0 many).map fun i => pick ns (spot + i) size

theorem offOf {D : Addr} : ∀ (l : List (Addr × Obj)), LCg.Off1 D l → ∀ p ∈ l, p.1 ≠ D
  | [], _, _, hp => nomatch hp
  | q :: r, h, p, hp => by
    rcases List.mem_cons.mp hp with rfl | hp
    · exact h.1
    · exact offOf r h.2 p hp

local macro_rules | `(tactic| walk_at "call ref") => `(tactic| (k_here; k_dflt (refine' pick_r ?k1 ?k2 ?k3 ?k4 ?k5 ?k6 ?k7 ?k8 ?k9 ?k10 ?k11 ?k12 ?_; (case k1 => k_asm); (case k2 => k_asm); (case k3 => k_asm); (case k4 => k_asm); (case k5 => k_asm); (case k6 => first | exact rfl | assumption); (case k7 => k_asm); (case k8 => l_ints); (case k9 => l_fit); (case k10 => (refine ⟨?_, ?_, ?_, ?_⟩ <;> omega)); (case k11 => ktr_room); (case k12 => ktr_units); intro _ _ _ F' N')))

local macro_rules | `(tactic| walk_at "my cells") => `(tactic| k_dflt (refine' code_defC ?k1 ?k2 ?k3 ?k4 ?k5 ?kA ?kF ?kK ?k6 ?k7 ?k8 ?k9 ?kB ?kD ?_ ?c2 ?c3 ?c4; (case kA => exact rfl); (case kF => exact rfl); (case kK => assumption); (case k1 => k_asm); (case k2 => k_asm); (case k3 => k_asm); (case k4 => k_asm); (case k5 => k_asm); (case k6 => k_is); (case k7 => k_is); (case k8 => ktr_room); (case k9 => exact BindsTo.of_eq rfl); (case kB => exact rfl); (case kD => decide +kernel); (case c2 => exact rfl); (case c3 => exact rfl); (case c4 => exact rfl); k_whole; intro g' L' h' tk' cells' FG' F' N' Y' B' X' T' l1; (try k_lt l1); k_cells Y'; (try simp only [List.cons_append, List.nil_append] at N'); (try dsimp only); (try k_lift B'); (try k_fold)))

theorem row_c {w : World} {p : Program} {loose : List Str} {mean : ExcName → Option Value} {mg mb : Str → Option Value} : Tag PySem.Challenge.rw_yd0001_01 (∀ {news : List (Addr × Obj)} {l : Addr} {vs : List Value} {ns : List Int} {spot size : Int} {many : Nat} {t1 t2 t3 : Tok}
    {dp un : Nat} {gd : Option (List Code)} {cn : Str} {cs : Scope} {a : Addr} {ccd : Value} {cl : List (Str × Addr)} {outer : List Env} {A₀ : Around} {base h₀ : Heap} {L : Addr} {m : Str → Option Value} {s : Shared} {Q E : Value → Shared → Prop}
    (k1 : Below A₀ base outer h₀) (k2 : Fr h₀ L s.heap m) (k3 : (hd.heap_39 w.params).In h₀) (k4 : News h₀ L s.heap news) (k5 : Top p loose mean mg mb h₀) (k6 : cs.kind = .function)
    (k7 : base.IsList l vs.toArray) (k8 : IntsAre vs ns) (k9 : ns.length < 2 ^ 62) (k10 : 0 ≤ spot ∧ spot < 500 ∧ 0 < size ∧ size < 1000 ∧ many < 20) (k11 : dp + 2 < recursionLimit) (k12 : un + 16 < cLine)
    (k : ∀ (l' : Addr) (us : List Value) (nn : Nat) (h' : Heap) (tk' : Nat), Fr h₀ L h' m → News h₀ L h' ((l', listOf us.toArray nn) :: news) → IntsAre us (rowOf ns spot many size) → (∀ p ∈ news, p.1 ≠ l') → Q (.ref l') { s with heap := h', toks := tk' }),
    wpAny (model PySem.Challenge.rw_yd0001_01.prog w) (ktrTop dp un gd cn cs L a ccd cl outer) (call (.ref 33) [.ref l, .int spot t1, .int many t3, .int size t2]) Q E s) := by
  k_fill
  unfold Tag
  intros; rename_i hret
  refine wpAny_call ?_
  walk_at "my cells"
  k_steps

  rename_i hI8 _ _ _ _ _ _ hoff kF kN _ _
  refine hret _ ys ys.length _ _ kF (cb_drop kN ?_) ?_ ?_
  · intro p hp
    rcases List.mem_cons.mp hp with rfl | hp
    · exact .head _
    · exact .tail _ (.tail _ (.tail _ (.tail _ hp)))
  · simpa [rowOf] using hI8
  · exact fun p hp e => offOf _ hoff.2.2.2 p hp e

end Mine

namespace Mine

/-- a condition: a whole number, or a truth value that counts as one. -/
inductive CondIs : Value → Int → Prop
  | int (k : Int) (t : Tok) : CondIs (.int k t) k
  | bool (b : Bool) : CondIs (.bool b) (if b = true then 1 else 0)
theorem condIs {v : Value} {c : Int} (h : CondIs v c) : (∃ t, v = .int c t) ∨ ∃ b, v = .bool b ∧ c = if b = true then 1 else 0 := by
  cases h with
  | int t => exact .inl ⟨_, rfl⟩
  | bool b => exact .inr ⟨b, rfl, rfl⟩
theorem neg_bool {prog : Program} {w : World} {A : Around} {E : Value → Shared → Prop} {s : Shared} {b : Bool} {Q : Value → Shared → Prop} (h : Q (.int (-(if b = true then 1 else 0)) s.toks) { s with toks := s.toks + 1 }) : wpAny (model prog w) A (unaryOp .USub (.bool b)) Q E s := by
  unfold unaryOp
  refine wpAny_holding ?_
  refine wpAny_bind (m := callSpecial? (.bool b) (Str.ofString "__neg__")) (wpAny_callSpecial?_slot (name := Str.ofString "__neg__") (T := "bool") rfl PySem.F.slot_bool_neg
    (wpAny_call_entry PySem.F.slot_bool_neg (T := "bool") rfl entry_int_neg ?_ (args_int_neg _)))
  cases b
  · show wpAny _ _ (do ret (← mkInt (-0))) _ _ s
    exact wpAny_ret_mkInt (wpAny_pure h)
  · show wpAny _ _ (do ret (← mkInt (-1))) _ _ s
    exact wpAny_ret_mkInt (wpAny_pure h)

/-- the names and the ledger after i turns. -/
def RS {σ : Type} (Led : σ → List (Addr × Obj)) (ps : σ → List (Str × Value)) (x : Str) (stored : List Str) (m₀ : Str → Option Value) (J : σ → Prop) (m : Str → Option Value) (nx : List (Addr × Obj)) : Prop :=
  ∃ c : σ, nx = Led c ∧ J c ∧ (∀ p ∈ ps c, m p.1 = some p.2) ∧ (∀ z, z ≠ x → (∀ p ∈ ps c, z ≠ p.1) → stored.contains z = false → m z = m₀ z)

section
variable {prog : Program} {w : World} {A : Around} {E : Value → Shared → Prop} {s : Shared} {env : Env} {h₀ : Heap} {x : Str} {body : List Stmt} {Q : Flow → Shared → Prop}
theorem rngS {σ : Type} {r : Addr} {a₀ b₀ : Int} {t₀ u₀ v₀ : Tok} {n : Nat} {m₀ : Str → Option Value} (Led : σ → List (Addr × Obj)) (ps : σ → List (Str × Value)) (stored : List Str) (J : Nat → σ → Prop) (c₀ : σ)
    (hh : A.handled = none) (hr : IsRange s.heap r a₀ b₀ 1 t₀ u₀ v₀) (hs : 0 ≤ a₀ ∧ a₀ + (n : Int) < 2 ^ 62) (hb : b₀ = a₀ + (n : Int)) (F : Fr h₀ env.locals s.heap m₀) (N : News h₀ env.locals s.heap (Led c₀)) (hj : J 0 c₀) (hk : ∀ p ∈ ps c₀, m₀ p.1 = some p.2)
    (turn : ∀ (i : Nat) (c : σ) t (u : Str → Option Value) h tk own, i < n → OwnOff own ((Led c₀).map (·.1)) → J i c →
      Fr h₀ env.locals h (fun y => if y = x then some (.int (a₀ + (i : Int)) t) else kstB (fun z => if stored.contains z then u z else m₀ z) (ps c) y) → News h₀ env.locals h (Led c ++ own) →
      wpAny (model prog w) A (execs body env) (InvPostN h₀ env.locals (RS Led ps x stored m₀ (J (i + 1))) own ((Led c₀).map (·.1)) { s with heap := h, toks := tk } Q) E { s with heap := h, toks := tk })
    (done : ∀ (c : σ) (u : Str → Option Value) h tk, J n c → Fr h₀ env.locals h (fun y => if y = x then u y else kstB (fun z => if stored.contains z then u z else m₀ z) (ps c) y) → News h₀ env.locals h (Led c) → Q .next { s with heap := h, toks := tk }) :
    wpAny (model prog w) A (pyIter (.ref r)) (fun it s₂ => LoopAtV prog w A h₀ env x body Q E it s₂) E s := by
  have hn : Builtin.Range.rangeSize a₀ b₀ 1 = (n : Int) := by rw [rangeSize_nat]; omega
  have hsmall : Builtin.Range.small a₀ b₀ 1 = true := small_one (by omega) (by omega) (by omega) (by omega)
  refine wpAny_pyIter_range hr hsmall ?_
  have W : Walks prog w A s.heap.objs.size [s.heap.objs.size] [s.heap.objs.size] n (fun i v => i < n ∧ ∃ t, v = .int (a₀ + i * 1) t)
      (fun i h => IsRangeIter h s.heap.objs.size (a₀ + (i : Nat) * 1) ((n : Int) - (i : Nat)) 1) := (Walks.range hh _ a₀ 1 n).bound
  refine loop_invN (fun i m nx => RS Led ps x stored m₀ (J i) m nx) W ?_ ?_ ?_ ?_ (by show IsRangeIter _ _ _ _ _; rw [hn]; simpa using Heap.get?_push_size _ rfl) (F.push _) (fun p hp => ⟨Heap.get?_push_of_some _ (N p hp).1, (N p hp).2⟩) ⟨c₀, rfl, hj, hk, fun _ _ _ _ => rfl⟩ ?_ ?_
  · intro hm
    exact absurd F.ns.lt ((List.mem_singleton.mp hm) ▸ Nat.lt_irrefl _)
  · intro b hb
    rw [List.mem_singleton.mp hb]
    exact next_is_new F
  · intro p hp hI
    exact absurd (Heap.lt_size (N p hp).1) ((List.mem_singleton.mp hI) ▸ Nat.lt_irrefl _)
  · intro p hp hI
    exact absurd (Heap.lt_size (N p hp).1) ((List.mem_singleton.mp hI) ▸ Nat.lt_irrefl _)
  · rintro i v m₁ nx h tk own hi ⟨_, t, rfl⟩ _ hoff ⟨c, rfl, hf', h1, h2⟩ F₁ N₁
    have e1 : a₀ + (i : Int) * 1 = a₀ + (i : Int) := by omega
    rw [e1] at F₁
    exact turn i c t m₁ h tk own hi hoff hf' (kst_fr h1 h2 F₁) N₁
  · rintro m₁ nx h tk ⟨c, rfl, hf', h1, h2⟩ F₁ N₁
    exact done c m₁ h tk hf' (kst_frOut h1 h2 F₁) N₁

/-- a turning of one list of ints that names nothing. -/
theorem rng1 {r D : Addr} {b₀ : Int} {t₀ u₀ v₀ : Tok} {n nn : Nat} {m₀ : Str → Option Value} {rest : List (Addr × Obj)} {vs : List Value} {ns : List Int} (J : Nat → List Int → Prop)
    (hh : A.handled = none) (hr : IsRange s.heap r 0 b₀ 1 t₀ u₀ v₀) (hb : b₀ = (n : Int)) (hs : n < 2 ^ 60) (F : Fr h₀ env.locals s.heap m₀) (N : News h₀ env.locals s.heap ((D, listOf vs.toArray nn) :: rest)) (hi : IntsAre vs ns) (hj : J 0 ns)
    (turn : ∀ (i : Nat) us ks kn t h tk own, i < n → OwnOff own (D :: rest.map (·.1)) → IntsAre us ks → J i ks →
      Fr h₀ env.locals h (fun y => if y = x then some (.int (i : Int) t) else m₀ y) → News h₀ env.locals h ((D, listOf us.toArray kn) :: (rest ++ own)) →
      wpAny (model prog w) A (execs body env) (InvPostN h₀ env.locals (fun m' nx => ∃ us ks kn, nx = (D, listOf us.toArray kn) :: rest ∧ IntsAre us ks ∧ J (i + 1) ks ∧ ∀ z, z ≠ x → m' z = m₀ z) own (D :: rest.map (·.1)) { s with heap := h, toks := tk } Q) E { s with heap := h, toks := tk })
    (done : ∀ us ks kn (u : Str → Option Value) h tk, IntsAre us ks → J n ks → Fr h₀ env.locals h (fun y => if y = x then u y else m₀ y) → News h₀ env.locals h ((D, listOf us.toArray kn) :: rest) → Q .next { s with heap := h, toks := tk }) :
    wpAny (model prog w) A (pyIter (.ref r)) (fun it s₂ => LoopAtV prog w A h₀ env x body Q E it s₂) E s := by
  refine rngS (σ := List Value × List Int × Nat) (fun c => (D, listOf c.1.toArray c.2.2) :: rest) (fun _ => []) [] (fun i c => IntsAre c.1 c.2.1 ∧ J i c.2.1) (vs, ns, nn) hh hr (n := n) ⟨by decide, by omega⟩ (by omega) F N ⟨hi, hj⟩ (fun _ h => nomatch h) ?_ ?_
  · rintro i ⟨us, ks, kn⟩ t u h tk own hlt hoff ⟨hi', hJ⟩ F' N'
    have e : (fun y => if y = x then some (Value.int (0 + (i : Int)) t) else kstB (fun z => if ([] : List Str).contains z then u z else m₀ z) [] y) = fun y => if y = x then some (.int (i : Int) t) else m₀ y := by
      funext y; simp [kstB]
    rw [e] at F'
    refine wpAny_mono (turn i us ks kn t h tk own hlt hoff hi' hJ F' N') (fun f s₂ p => ?_) fun _ _ x => x
    have up : InvEndN h₀ env.locals (fun m' nx => ∃ us ks kn, nx = (D, listOf us.toArray kn) :: rest ∧ IntsAre us ks ∧ J (i + 1) ks ∧ ∀ z, z ≠ x → m' z = m₀ z) own (D :: rest.map (·.1)) { s with heap := h, toks := tk } s₂ →
        InvEndN h₀ env.locals (RS (fun c : List Value × List Int × Nat => (D, listOf c.1.toArray c.2.2) :: rest) (fun _ => []) x [] m₀ (fun c => IntsAre c.1 c.2.1 ∧ J (i + 1) c.2.1)) own (D :: rest.map (·.1)) { s with heap := h, toks := tk } s₂ := by
      rintro ⟨h', tk', m', news', nx', e', F', N', hn', ho', ha, us, ks, kn, rfl, h1, h2, h3⟩
      exact ⟨h', tk', m', news', _, e', F', N', hn', ho', ha, (us, ks, kn), rfl, ⟨h1, h2⟩, fun _ h => (nomatch h), fun z hz _ _ => h3 z hz⟩
    cases f with
    | ret v => exact p
    | brk => exact p
    | next => exact up p
    | cont => exact up p
  · rintro ⟨us, ks, kn⟩ u h tk ⟨hi', hJ⟩ F' N'
    have e : (fun y => if y = x then u y else kstB (fun z => if ([] : List Str).contains z then u z else m₀ z) [] y) = fun y => if y = x then u y else m₀ y := by
      funext y; simp [kstB]
    rw [e] at F'
    exact done us ks kn u h tk hi' hJ F' N'
theorem rng1_end {J : List Int → Prop} {L D : Addr} {m₀ : Str → Option Value} {v : Option Value} {us : List Value} {ks : List Int} {kn tk : Nat} {rest own : List (Addr × Obj)} {h' : Heap} {s₁ : Shared}
    (F : Fr h₀ L h' (fun y => if y = x then v else m₀ y)) (N : News h₀ L h' ((D, listOf us.toArray kn) :: (rest ++ own))) (hi : IntsAre us ks) (hJ : J ks) :
    InvEndN h₀ L (fun m' nx => ∃ us ks kn, nx = (D, listOf us.toArray kn) :: rest ∧ IntsAre us ks ∧ J ks ∧ ∀ z, z ≠ x → m' z = m₀ z) own (D :: rest.map (·.1)) s₁ { s₁ with heap := h', toks := tk } := by
  refine InvEndN.intro F N ⟨us, ks, kn, rfl, hi, hJ, fun z hz => if_neg hz⟩ rfl (fun p hp => ?_) (fun p hp => .tail _ (List.mem_append_right _ hp))
  rcases List.mem_cons.mp hp with rfl | hp
  · exact .head _
  · exact .tail _ (List.mem_append_left _ hp)
end
end Mine

namespace Mine

local macro_rules | `(tactic| walk_at "my steps") => `(tactic| repeat' (first | (k_unfold; (try dsimp only)) | ((fail_if_success (with_reducible show wpAny _ _ (pyIter (Value.ref _)) _ _ _)); first | (k_end; wrow_close) | walk1 | (dsimp only; walk1) | (leave1; walk_say "STEP leave1"; try dsimp only)) | fail "no step"))
local macro_rules | `(tactic| walk_at "unaryOp USub") => `(tactic| ((with_reducible refine neg_bool ?_); try dsimp only))

theorem cw_in (c : Int) : 0 ≤ Int.fmod (-c) 256 ∧ Int.fmod (-c) 256 < 256 := by
  rw [fmod_256]; omega

theorem sel_c {w : World} {p : Program} {loose : List Str} {mean : ExcName → Option Value} {mg mb : Str → Option Value} : Tag PySem.Challenge.rw_yd0001_01 (∀ {news : List (Addr × Obj)} {xs ys : List Int} {cv : Value} {c : Int} {t1 t2 : Tok}
    {dp un : Nat} {gd : Option (List Code)} {cn : Str} {cs : Scope} {a : Addr} {ccd : Value} {cl : List (Str × Addr)} {outer : List Env} {A₀ : Around} {base h₀ : Heap} {L : Addr} {m : Str → Option Value} {s : Shared} {Q E : Value → Shared → Prop}
    (k1 : Below A₀ base outer h₀) (k2 : Fr h₀ L s.heap m) (k3 : (hd.heap_39 w.params).In h₀) (k4 : News h₀ L s.heap news) (k5 : Top p loose mean mg mb h₀) (k6 : cs.kind = .function)
    (k7 : KBa.In xs) (k8 : KBa.In ys) (k9 : xs.length < 20) (k9' : ys.length < 20) (kc : CondIs cv c) (k11 : dp + 1 < recursionLimit) (k12 : un + 16 < cLine)
    (k : ys.length = xs.length → ∀ (t : Tok) (h' : Heap) (tk' : Nat), Fr h₀ L h' m → News h₀ L h' news → Q (.bytes (byteArr (selRow (Int.fmod (-c) 256) xs ys)) t) { s with heap := h', toks := tk' })
    (kx : (xs.length : Int) ≠ (ys.length : Int) → ∀ (g' : Heap) (e : Addr) (h' : Heap) (tk' : Nat), Fr h₀ L g' m → RaisedN base (envX cn cs L a ccd cl :: outer) e (.type "AssertionError") news h' → g'.UpToSlots h' → E (.ref e) { s with heap := h', toks := tk' }),
    wpAny (model PySem.Challenge.rw_yd0001_01.prog w) (ktrTop dp un gd cn cs L a ccd cl outer) (call (.ref 21) [.bytes (byteArr xs) t1, .bytes (byteArr ys) t2, cv]) Q E s) := by
  k_fill
  unfold Tag
  intro news xs ys cv c t1 t2 dp un gd cn cs a ccd cl outer A₀ base h₀ L m s Q E k1 k2 k3 k4 k5 k6 hX hY hn hnY hc k11 k12 hret kx
  have ex := KBa.ints_make hX
  have ey := KBa.ints_make hY
  have hMk9 : KstMark := kstMark
  rcases condIs hc with ⟨tc, rfl⟩ | ⟨b, rfl, rfl⟩
  · refine wpAny_call ?_
    k_dflt cell_enter
    walk_at "my steps"
    · rename_i hR F1 N1 _
      rename IntsAre _ _ => hi
      refine rng1 (SelJ (Int.fmod (-c) 256) xs ys) rfl hR rfl (by omega) F1 N1 hi ?_ ?_ ?_
      · apply SelJ.zero; simp
      · intro i us ks kn t h tk own hlt hoff hi' hJ F2 N2
        have hJ1 := hJ.1
        walk_at "my steps"
        rename_i F3 N3 hi3 _ _
        exact rng1_end F3 N3 hi3 (hJ.succ hlt rfl)
      · intro us ks kn u h tk hi' hJ F2 N2
        have hlen : ys.length = xs.length := by omega
        have e := hJ.done hlen
        subst e
        have hIn : KBa.In _ := selRow_in hlen (cw_in c) hX hY
        have hL := selRow_length (Int.fmod (-c) 256) hlen
        walk_at "my steps"
        exact hret hlen _ _ _ (by assumption) (cb_drop (by assumption) fun p hp => .tail _ (.tail _ hp))
    · rename_i hR hU
      exact kx (by assumption) _ _ _ _ (by assumption) hR hU
  · refine wpAny_call ?_
    k_dflt cell_enter
    walk_at "my steps"
    · rename_i hR F1 N1 _
      rename IntsAre _ _ => hi
      refine rng1 (SelJ (Int.fmod (-if b = true then 1 else 0) 256) xs ys) rfl hR rfl (by omega) F1 N1 hi ?_ ?_ ?_
      · apply SelJ.zero; simp
      · intro i us ks kn t h tk own hlt hoff hi' hJ F2 N2
        have hJ1 := hJ.1
        walk_at "my steps"
        rename_i F3 N3 hi3 _ _
        exact rng1_end F3 N3 hi3 (hJ.succ hlt rfl)
      · intro us ks kn u h tk hi' hJ F2 N2
        have hlen : ys.length = xs.length := by omega
        have e := hJ.done hlen
        subst e
        have hIn : KBa.In _ := selRow_in hlen (cw_in (if b = true then 1 else 0)) hX hY
        have hL := selRow_length (Int.fmod (-if b = true then 1 else 0) 256) hlen
        walk_at "my steps"
        exact hret hlen _ _ _ (by assumption) (cb_drop (by assumption) fun p hp => .tail _ (.tail _ hp))
    · rename_i hR hU
      exact kx (by assumption) _ _ _ _ (by assumption) hR hU
end Mine

namespace Mine

theorem untag {o : OpenLaw} {P : Prop} (h : Tag o P) : P := h
theorem pick_in {ns : List Int} {spot size : Int} (h : 0 < size) : 0 ≤ pick ns spot size ∧ pick ns spot size < size :=
  ⟨Int.fmod_nonneg_of_pos _ h, Int.fmod_lt_of_pos _ h⟩
theorem pick_nat (ns : List Int) (spot size : Int) (h : 0 < size) : ∃ n : Nat, pick ns spot size = (n : Int) ∧ (n : Int) < size := by
  have h1 := pick_in (ns := ns) (spot := spot) h
  exact ⟨(pick ns spot size).toNat, by omega, by omega⟩
theorem rowOf_length (ns : List Int) (spot : Int) (many : Nat) (size : Int) : (rowOf ns spot many size).length = many := by
  simp [rowOf, rangeKs_length]
theorem rowOf_in (ns : List Int) (spot : Int) (many : Nat) : KBa.In (rowOf ns spot many 256) := by
  intro n hn
  obtain ⟨i, _, rfl⟩ := List.mem_map.mp hn
  exact pick_in (by decide)

theorem pick_v {w : World} {p : Program} {loose : List Str} {mean : ExcName → Option Value} {mg mb : Str → Option Value} {news : List (Addr × Obj)} {l : Addr} {vs : List Value} {ns : List Int} {spot size v : Int} {t1 t2 : Tok}
    {dp un : Nat} {gd : Option (List Code)} {cn : Str} {cs : Scope} {a : Addr} {ccd : Value} {cl : List (Str × Addr)} {outer : List Env} {A₀ : Around} {base h₀ : Heap} {L : Addr} {m : Str → Option Value} {s : Shared} {Q E : Value → Shared → Prop}
    (k1 : Below A₀ base outer h₀) (k2 : Fr h₀ L s.heap m) (k3 : (hd.heap_39 w.params).In h₀) (k4 : News h₀ L s.heap news) (k5 : Top p loose mean mg mb h₀) (k6 : cs.kind = .function)
    (k7 : base.IsList l vs.toArray) (k8 : IntsAre vs ns) (k9 : ns.length < 2 ^ 62) (k10 : 0 ≤ spot ∧ spot < 1000 ∧ 0 < size ∧ size < 10000) (k11 : dp + 1 < recursionLimit) (k12 : un + 8 < cLine) (k13 : pick ns spot size = v)
    (k : ∀ (t : Tok) (h' : Heap) (tk' : Nat), Fr h₀ L h' m → News h₀ L h' news → Q (.int v t) { s with heap := h', toks := tk' }) :
    wpAny (model PySem.Challenge.rw_yd0001_01.prog w) (ktrTop dp un gd cn cs L a ccd cl outer) (call (.ref 28) [.ref l, .int spot t1, .int size t2]) Q E s := by
  refine pick_r k1 k2 k3 k4 k5 k6 k7 k8 k9 k10 k11 k12 fun t h' tk' F N => ?_
  rw [k13]
  exact k t h' tk' F N

theorem row_r {w : World} {p : Program} {loose : List Str} {mean : ExcName → Option Value} {mg mb : Str → Option Value} {news : List (Addr × Obj)} {l : Addr} {vs : List Value} {ns : List Int} {spot : Int} {many : Nat} {t1 t2 t3 : Tok}
    {dp un : Nat} {gd : Option (List Code)} {cn : Str} {cs : Scope} {a : Addr} {ccd : Value} {cl : List (Str × Addr)} {outer : List Env} {A₀ : Around} {base h₀ : Heap} {L : Addr} {m : Str → Option Value} {s : Shared} {Q E : Value → Shared → Prop}
    (k1 : Below A₀ base outer h₀) (k2 : Fr h₀ L s.heap m) (k3 : (hd.heap_39 w.params).In h₀) (k4 : News h₀ L s.heap news) (k5 : Top p loose mean mg mb h₀) (k6 : cs.kind = .function)
    (k7 : base.IsList l vs.toArray) (k8 : IntsAre vs ns) (k9 : ns.length < 2 ^ 62) (k10 : 0 ≤ spot ∧ spot < 500 ∧ many < 20) (k11 : dp + 2 < recursionLimit) (k12 : un + 16 < cLine)
    (k : ∀ (row : List Int) (l' : Addr) (us : List Value) (nn : Nat) (h' : Heap) (tk' : Nat), Fr h₀ L h' m → News h₀ L h' ((l', listOf us.toArray nn) :: news) → IntsAre us row → KBa.In row → row.length = many → (∀ p ∈ news, @Ne Nat p.1 l') → Q (.ref l') { s with heap := h', toks := tk' }) :
    wpAny (model PySem.Challenge.rw_yd0001_01.prog w) (ktrTop dp un gd cn cs L a ccd cl outer) (call (.ref 33) [.ref l, .int spot t1, .int (many : Int) t3, .int 256 t2]) Q E s := by
  refine untag (o := PySem.Challenge.rw_yd0001_01) row_c k1 k2 k3 k4 k5 k6 k7 k8 k9 ⟨k10.1, k10.2.1, by decide, by decide, k10.2.2⟩ k11 k12 fun l' us nn h' tk' F N I o => ?_
  exact k _ l' us nn h' tk' F N I (rowOf_in _ _ _) (rowOf_length _ _ _ _) o


theorem sel_r {w : World} {p : Program} {loose : List Str} {mean : ExcName → Option Value} {mg mb : Str → Option Value} {news : List (Addr × Obj)} {xs ys : List Int} {cv : Value} {c : Int} {t1 t2 : Tok}
    {dp un : Nat} {gd : Option (List Code)} {cn : Str} {cs : Scope} {a : Addr} {ccd : Value} {cl : List (Str × Addr)} {outer : List Env} {A₀ : Around} {base h₀ : Heap} {L : Addr} {m : Str → Option Value} {s : Shared} {Q E : Value → Shared → Prop}
    (k1 : Below A₀ base outer h₀) (k2 : Fr h₀ L s.heap m) (k3 : (hd.heap_39 w.params).In h₀) (k4 : News h₀ L s.heap news) (k5 : Top p loose mean mg mb h₀) (k6 : cs.kind = .function)
    (k7 : KBa.In xs) (k8 : KBa.In ys) (k9 : xs.length < 20) (k9' : ys.length < 20) (kc : CondIs cv c) (k11 : dp + 1 < recursionLimit) (k12 : un + 16 < cLine)
    (k : ys.length = xs.length → ∀ (t : Tok) (h' : Heap) (tk' : Nat), Fr h₀ L h' m → News h₀ L h' news → Q (.bytes (byteArr (selRow (Int.fmod (-c) 256) xs ys)) t) { s with heap := h', toks := tk' })
    (kx : (xs.length : Int) ≠ (ys.length : Int) → ∀ (g' : Heap) (e : Addr) (h' : Heap) (tk' : Nat), Fr h₀ L g' m → RaisedN base (envX cn cs L a ccd cl :: outer) e (.type "AssertionError") news h' → g'.UpToSlots h' → E (.ref e) { s with heap := h', toks := tk' }) :
    wpAny (model PySem.Challenge.rw_yd0001_01.prog w) (ktrTop dp un gd cn cs L a ccd cl outer) (call (.ref 21) [.bytes (byteArr xs) t1, .bytes (byteArr ys) t2, cv]) Q E s :=
  untag (o := PySem.Challenge.rw_yd0001_01) sel_c k1 k2 k3 k4 k5 k6 k7 k8 k9 k9' kc k11 k12 k kx

inductive All2 {α β : Type} (R : α → β → Prop) : List α → List β → Prop
  | nil : All2 R [] []
  | cons {a b as bs} : R a b → All2 R as bs → All2 R (a :: as) (b :: bs)
theorem All2.length {α β : Type} {R : α → β → Prop} : ∀ {as : List α} {bs : List β}, All2 R as bs → as.length = bs.length
  | _, _, .nil => rfl
  | _, _, .cons _ h => by simp [h.length]
theorem All2.push {α β : Type} {R : α → β → Prop} {a : α} {b : β} (r : R a b) : ∀ {as : List α} {bs : List β}, All2 R as bs → All2 R (as ++ [a]) (bs ++ [b])
  | _, _, .nil => .cons r .nil
  | _, _, .cons h t => .cons h (t.push r)
theorem All2.get {α β : Type} {R : α → β → Prop} (d : β) : ∀ {as : List α} {bs : List β}, All2 R as bs → ∀ i, i < bs.length → ∃ a, as[i]? = some a ∧ R a (bs.getD i d)
  | _, _, .nil, _, h => absurd h (Nat.not_lt_zero _)
  | _, _, .cons h _, 0, _ => ⟨_, rfl, h⟩
  | _, _, .cons _ t, i + 1, h => t.get d i (Nat.lt_of_succ_lt_succ h)
theorem All2.set {α β : Type} {R : α → β → Prop} {a : α} {b : β} (r : R a b) : ∀ {as : List α} {bs : List β}, All2 R as bs → ∀ i, All2 R (as.set i a) (bs.set i b)
  | _, _, .nil, _ => .nil
  | _, _, .cons _ t, 0 => .cons r t
  | _, _, .cons h t, i + 1 => .cons h (t.set r i)

/-- the values are the rows' bytes. -/
def BytesAre (vs : List Value) (rs : List (List Int)) : Prop := All2 (fun v r => ∃ t, v = Value.bytes (byteArr r) t) vs rs
def CondsAre (vs : List Value) (cs : List Int) : Prop := All2 CondIs vs cs

theorem ints_push {x : Int} {u : Tok} : ∀ {vs : List Value} {ns : List Int}, IntsAre vs ns → IntsAre (vs ++ [.int x u]) (ns ++ [x])
  | _, _, .nil => .cons x u .nil
  | _, _, .cons i t h => .cons i t (ints_push h)
section
variable {prog : Program} {w : World} {A : Around} {E : Value → Shared → Prop} {s : Shared} {env : Env} {h₀ : Heap} {x : Str} {body : List Stmt} {Q : Flow → Shared → Prop}
structure St where
  mv : List Value
  ms : List Int
  mk' : Nat
  cv : List Value
  cs : List Int
  ck : Nat
  rv : List Value
  rs : List (List Int)
  rk : Nat
  sp : Int
  spt : Tok
def bldLed (lm lc lr : Addr) (rest : List (Addr × Obj)) (c : St) : List (Addr × Obj) := (lm, listOf c.mv.toArray c.mk') :: (lc, listOf c.cv.toArray c.ck) :: (lr, listOf c.rv.toArray c.rk) :: rest
def bldPs (c : St) : List (Str × Value) := [("spot", .int c.sp c.spt)]
def bldJ (J : Nat → List Int → List Int → List (List Int) → Int → Prop) (i : Nat) (c : St) : Prop := IntsAre c.mv c.ms ∧ CondsAre c.cv c.cs ∧ BytesAre c.rv c.rs ∧ J i c.ms c.cs c.rs c.sp
theorem bld {r lm lc lr : Addr} {b₀ : Int} {t₀ u₀ v₀ : Tok} {n mk' ck rk : Nat} {m₀ : Str → Option Value} {rest : List (Addr × Obj)} {mv cv rv : List Value} {ms cs : List Int} {rs : List (List Int)} {sp : Int} {spt : Tok}
    (J : Nat → List Int → List Int → List (List Int) → Int → Prop)
    (hh : A.handled = none) (hr : IsRange s.heap r 0 b₀ 1 t₀ u₀ v₀) (hb : b₀ = (n : Int)) (hs : n < 2 ^ 60) (F : Fr h₀ env.locals s.heap m₀)
    (N : News h₀ env.locals s.heap ((lm, listOf mv.toArray mk') :: (lc, listOf cv.toArray ck) :: (lr, listOf rv.toArray rk) :: rest))
    (h1 : IntsAre mv ms) (h2 : CondsAre cv cs) (h3 : BytesAre rv rs) (hsp : m₀ "spot" = some (.int sp spt)) (hj : J 0 ms cs rs sp)
    (turn : ∀ (i : Nat) mv ms mk' cv cs ck rv rs rk sp spt t (u : Str → Option Value) h tk own, i < n → OwnOff own (lm :: lc :: lr :: rest.map (·.1)) → IntsAre mv ms → CondsAre cv cs → BytesAre rv rs → J i ms cs rs sp →
      Fr h₀ env.locals h (fun y => if y = x then some (.int (i : Int) t) else if y = "spot" then some (.int sp spt) else if (["kind", "cond"] : List Str).contains y then u y else m₀ y) →
      News h₀ env.locals h ((lm, listOf mv.toArray mk') :: (lc, listOf cv.toArray ck) :: (lr, listOf rv.toArray rk) :: (rest ++ own)) →
      wpAny (model prog w) A (execs body env) (InvPostN h₀ env.locals (RS (bldLed lm lc lr rest) bldPs x ["kind", "cond"] m₀ (bldJ J (i + 1))) own (lm :: lc :: lr :: rest.map (·.1)) { s with heap := h, toks := tk } Q) E { s with heap := h, toks := tk })
    (done : ∀ mv ms mk' cv cs ck rv rs rk sp spt (u : Str → Option Value) h tk, IntsAre mv ms → CondsAre cv cs → BytesAre rv rs → J n ms cs rs sp →
      Fr h₀ env.locals h (fun y => if y = x then u y else if y = "spot" then some (.int sp spt) else if (["kind", "cond"] : List Str).contains y then u y else m₀ y) →
      News h₀ env.locals h ((lm, listOf mv.toArray mk') :: (lc, listOf cv.toArray ck) :: (lr, listOf rv.toArray rk) :: rest) → Q .next { s with heap := h, toks := tk }) :
    wpAny (model prog w) A (pyIter (.ref r)) (fun it s₂ => LoopAtV prog w A h₀ env x body Q E it s₂) E s := by
  refine rngS (bldLed lm lc lr rest) bldPs ["kind", "cond"] (bldJ J) ⟨mv, ms, mk', cv, cs, ck, rv, rs, rk, sp, spt⟩ hh hr (n := n) ⟨by decide, by omega⟩ (by omega) F N ⟨h1, h2, h3, hj⟩ (fun p hp => by rw [List.mem_singleton.mp hp]; exact hsp) ?_ ?_
  · rintro i ⟨mv, ms, mk', cv, cs, ck, rv, rs, rk, sp, spt⟩ t u h tk own hlt hoff ⟨g1, g2, g3, gj⟩ F' N'
    rw [Int.zero_add] at F'
    exact turn i mv ms mk' cv cs ck rv rs rk sp spt t u h tk own hlt hoff g1 g2 g3 gj F' N'
  · rintro ⟨mv, ms, mk', cv, cs, ck, rv, rs, rk, sp, spt⟩ u h tk ⟨g1, g2, g3, gj⟩ F' N'
    exact done mv ms mk' cv cs ck rv rs rk sp spt u h tk g1 g2 g3 gj F' N'
theorem rs_end {σ : Type} {Led : σ → List (Addr × Obj)} {ps : σ → List (Str × Value)} {stored : List Str} {m₀ m' : Str → Option Value} {J : σ → Prop} {L : Addr} {news' own : List (Addr × Obj)} {adr : List Addr} {h' : Heap} {tk : Nat} {s₁ : Shared} (c : σ)
    (F : Fr h₀ L h' m') (N : News h₀ L h' news') (hJ : J c) (hk : ∀ p ∈ ps c, m' p.1 = some p.2) (hr : ∀ z, z ≠ x → (∀ p ∈ ps c, z ≠ p.1) → stored.contains z = false → m' z = m₀ z) (ha : (Led c).map (·.1) = adr) (hn : ∀ p ∈ Led c, p ∈ news') (ho : ∀ p ∈ own, p ∈ news') :
    InvEndN h₀ L (RS Led ps x stored m₀ J) own adr s₁ { s₁ with heap := h', toks := tk } :=
  InvEndN.intro F N ⟨c, rfl, hJ, hk, hr⟩ ha hn ho
theorem bld_end {L lm lc lr : Addr} {m₀ m' : Str → Option Value} {news' rest own : List (Addr × Obj)} {mv cv rv : List Value} {ms cs : List Int} {rs : List (List Int)} {mk cnd sp : Int} {tm spt : Tok} {xc : Value} {a b c tk : Nat} {h' : Heap} {s₁ : Shared}
    {i : Nat} {J' : Nat → List Int → List Int → List (List Int) → Int → Prop}
    (F : Fr h₀ L h' m') (N : News h₀ L h' news') (h1 : (lm, listOf (mv ++ [Value.int mk tm]).toArray a) ∈ news') (h2 : (lc, listOf (cv ++ [xc]).toArray b) ∈ news') (h3 : (lr, listOf rv.toArray c) ∈ news') (h4 : ∀ p ∈ rest, p ∈ news') (h5 : ∀ p ∈ own, p ∈ news')
    (i1 : IntsAre mv ms) (i2 : CondsAre cv cs) (i3 : CondIs xc cnd) (i4 : BytesAre rv rs) (hsp : m' "spot" = some (.int sp spt))
    (hr : ∀ z, z ≠ x → z ≠ "spot" → z ≠ "kind" → z ≠ "cond" → m' z = m₀ z) (hJ : J' i (ms ++ [mk]) (cs ++ [cnd]) rs sp) :
    InvEndN h₀ L (RS (bldLed lm lc lr rest) bldPs x ["kind", "cond"] m₀ (bldJ J' i)) own (lm :: lc :: lr :: rest.map (·.1)) s₁ { s₁ with heap := h', toks := tk } := by
  refine InvEndN.intro F N ⟨⟨mv ++ [Value.int mk tm], ms ++ [mk], a, cv ++ [xc], cs ++ [cnd], b, rv, rs, c, sp, spt⟩, rfl, ⟨ints_push i1, All2.push i3 i2, i4, hJ⟩, ?_, ?_⟩ rfl ?_ h5
  · intro p hp; rw [List.mem_singleton.mp hp]; exact hsp
  · intro z g1 g2 g3
    simp only [List.contains_cons, List.contains_nil, Bool.or_false, Bool.or_eq_false_iff, beq_eq_false_iff_ne] at g3
    exact hr z g1 (g2 _ (.head _)) g3.1 g3.2
  · intro p hp
    simp only [bldLed, List.mem_cons] at hp
    rcases hp with rfl | rfl | rfl | hp
    · exact h1
    · exact h2
    · exact h3
    exact h4 p hp
end
theorem byteArr_app (xs ys : List Int) : byteArr xs ++ byteArr ys = byteArr (xs ++ ys) := by simp [byteArr]
section
variable {prog : Program} {w : World} {A : Around} {E : Value → Shared → Prop} {s : Shared} {h₀ : Heap} {L D : Addr} {m : Str → Option Value} {news news' : List (Addr × Obj)} {vs : List Value} {n : Nat} {k : Int} {t u : Tok}
theorem append_L {x : Value} {Q : Value → Shared → Prop} (F : Fr h₀ L s.heap m) (N : News h₀ L s.heap news) (U : Upd D (listOf vs.toArray n) (listOf (vs ++ [x]).toArray (n + 1)) news news') (hsz : vs.length < 1000)
    (h : ∀ h', Fr h₀ L h' m → News h₀ L h' news' → Q .none { s with heap := h' }) : wpAny (model prog w) A (call (.builtin "list.append") [.ref D, x]) Q E s := by
  rw [← List.push_toArray] at U
  exact append_K F N U h (by rw [List.size_toArray, sizeLine_eq]; omega)
theorem set_L {x : Value} {Q : Unit → Shared → Prop} (F : Fr h₀ L s.heap m) (N : News h₀ L s.heap news) (U : Upd D (listOf vs.toArray n) (listOf (vs.set k.toNat x).toArray n) news news') (h0 : 0 ≤ k) (h1 : k < (vs.length : Int)) (hfit : k < 1000)
    (h : ∀ h', Fr h₀ L h' m → News h₀ L h' news' → Q () { s with heap := h' }) : wpAny (model prog w) A (setItem (.ref D) (.int k t) x) Q E s := by
  obtain ⟨pre, post, rfl, rfl, a, b⟩ := U.split
  have z := N (D, listOf vs.toArray n) (List.mem_append.mpr (.inr (.head _)))
  have hs : vs.toArray.size = vs.length := List.size_toArray
  refine ki_setAt z.1 h0 (by omega) (by omega) (h _ (F.change (Heap.SameBut.update ..) z.2.1 z.2.2) (ki_turn _ N a b ?_ ?_))
  · show vs.toArray.setIfInBounds k.toNat x = (vs.set k.toNat x).toArray
    apply Array.toList_inj.mp
    simp
  · simp
theorem sub_all2 {β : Type} {R : Value → β → Prop} {rs : List β} (d : β) {value slice : PySem.Expr} {Q : Value → Shared → Prop} (N : News h₀ L s.heap news) (hm : (D, listOf vs.toArray n) ∈ news) (hi : All2 R vs rs) (h0 : 0 ≤ k) (h1 : k < (rs.length : Int)) (hfit : k < 1000)
    (h : ∀ v, R v (rs.getD k.toNat d) → Q v s)
    (hs : subscripted slice false (.ref D) (.int k u) = operate [.ref D, .int k u] (getItem (.ref D) (.int k u)) := by with_unfolding_all rfl) :
    wpAny (model prog w) A (subscriptTail value slice (.ref D) (.int k u)) Q E s := by
  obtain ⟨v, hx, r⟩ := All2.get d hi k.toNat (by omega)
  have hl := PySem.IsL.isList (n := n) (N _ hm).1
  exact tail_any hl.typeIs slot_list_getitem.lookup (wpAny_getItem_list hl h0 (by omega) (by simpa using hx) (h v r)) hs
theorem sub_bytes {rs : List (List Int)} {value slice : PySem.Expr} {Q : Value → Shared → Prop} (N : News h₀ L s.heap news) (hm : (D, listOf vs.toArray n) ∈ news) (hi : BytesAre vs rs) (h0 : 0 ≤ k) (h1 : k < (rs.length : Int)) (hfit : k < 1000)
    (h : ∀ t, Q (.bytes (byteArr (rs.getD k.toNat [])) t) s)
    (hs : subscripted slice false (.ref D) (.int k u) = operate [.ref D, .int k u] (getItem (.ref D) (.int k u)) := by with_unfolding_all rfl) :
    wpAny (model prog w) A (subscriptTail value slice (.ref D) (.int k u)) Q E s :=
  sub_all2 [] N hm hi h0 h1 hfit (fun v ⟨t, e⟩ => e ▸ h t) hs
theorem sub_conds {cs : List Int} {value slice : PySem.Expr} {Q : Value → Shared → Prop} (N : News h₀ L s.heap news) (hm : (D, listOf vs.toArray n) ∈ news) (hi : CondsAre vs cs) (h0 : 0 ≤ k) (h1 : k < (cs.length : Int)) (hfit : k < 1000)
    (h : ∀ v, CondIs v (cs.getD k.toNat 0) → Q v s)
    (hs : subscripted slice false (.ref D) (.int k u) = operate [.ref D, .int k u] (getItem (.ref D) (.int k u)) := by with_unfolding_all rfl) :
    wpAny (model prog w) A (subscriptTail value slice (.ref D) (.int k u)) Q E s :=
  sub_all2 0 N hm hi h0 h1 hfit h hs
theorem sub_last {x : Value} {value slice : PySem.Expr} {Q : Value → Shared → Prop} (N : News h₀ L s.heap news) (hm : (D, listOf (vs ++ [x]).toArray n) ∈ news) (hk : k = (vs.length : Int)) (hfit : k < 1000)
    (h : Q x s)
    (hs : subscripted slice false (.ref D) (.int k u) = operate [.ref D, .int k u] (getItem (.ref D) (.int k u)) := by with_unfolding_all rfl) :
    wpAny (model prog w) A (subscriptTail value slice (.ref D) (.int k u)) Q E s := by
  have hl := PySem.IsL.isList (n := n) (N _ hm).1
  subst hk
  exact tail_any hl.typeIs slot_list_getitem.lookup (wpAny_getItem_list hl (by omega) (by omega) (by simp) h) hs
theorem in_255 : KBa.In [255] := fun n hn => by rw [List.mem_singleton.mp hn]; decide
theorem add_B {xs ys : List Int} {Q : Value → Shared → Prop} (hsz : xs.length + ys.length < 1000) (hx : KBa.In xs) (hy : KBa.In ys) (h : ∀ t' k, Q (.bytes (byteArr (xs ++ ys)) t') { s with toks := k }) : wpAny (model prog w) A (binaryOp .Add (.bytes (byteArr xs) t) (.bytes (byteArr ys) u)) Q E s :=
  KBa.add_K (KBa.ints_make hx) (KBa.ints_make hy) (by omega) fun t' k _ => by rw [byteArr_app]; exact h t' k
end
end Mine

namespace Mine
local macro_rules | `(tactic| walk_at "my step") => `(tactic| (fail_if_success (with_reducible show InvEndN _ _ _ _ _ _ _)); first | (k_unfold; (try dsimp only)) | ((fail_if_success (with_reducible show wpAny _ _ (pyIter (Value.ref _)) _ _ _)); first | (k_end; wrow_close) | walk1 | (dsimp only; walk1) | (leave1; walk_say "STEP leave1"; try dsimp only)) | fail "no step")
local macro_rules | `(tactic| walk_at "my steps") => `(tactic| repeat' (walk_at "my step"))
local macro_rules | `(tactic| walk_at "call ref") => `(tactic| (k_here; k_dflt (refine' pick_v ?k1 ?k2 ?k3 ?k4 ?k5 ?k6 ?k7 ?k8 ?k9 ?k10 ?k11 ?k12 ?k13 ?_; (case k1 => k_asm); (case k2 => k_asm); (case k3 => k_asm); (case k4 => k_asm); (case k5 => k_asm); (case k6 => first | exact rfl | assumption); (case k7 => k_asm); (case k8 => l_ints); (case k9 => l_fit); (case k10 => (refine ⟨?_, ?_, ?_, ?_⟩ <;> omega)); (case k11 => ktr_room); (case k12 => ktr_units); (case k13 => first | assumption | exact rfl); intro _ _ _ F' N')))
local macro_rules | `(tactic| walk_at "call ref") => `(tactic| (k_here; k_dflt (refine' row_r ?k1 ?k2 ?k3 ?k4 ?k5 ?k6 ?k7 ?k8 ?k9 ?k10 ?k11 ?k12 ?_; (case k1 => k_asm); (case k2 => k_asm); (case k3 => k_asm); (case k4 => k_asm); (case k5 => k_asm); (case k6 => first | exact rfl | assumption); (case k7 => k_asm); (case k8 => l_ints); (case k9 => l_fit); (case k10 => (refine ⟨?_, ?_, ?_⟩ <;> omega)); (case k11 => ktr_room); (case k12 => ktr_units); intro _ _ _ _ _ _ F' N' hi' hin' hlen' hof'; (try simp only [List.cons_append, List.nil_append, List.forall_mem_cons] at hof'))))

local macro_rules | `(tactic| walk_at "call ref") => `(tactic| (k_here; k_dflt (refine' sel_r ?k1 ?k2 ?k3 ?k4 ?k5 ?k6 ?k7 ?k8 ?k9 ?k9' ?kc ?k11 ?k12 ?_ ?_; (case k1 => k_asm); (case k2 => k_asm); (case k3 => k_asm); (case k4 => k_asm); (case k5 => k_asm); (case k6 => first | exact rfl | assumption); (case k7 => assumption); (case k8 => assumption); (case k9 => omega); (case k9' => omega); (case kc => assumption); (case k11 => ktr_room); (case k12 => ktr_units)); (intro hl' _ _ _ F' N'); rotate_left; (intro hl' g' _ _ _ FG' R' U'); rotate_right))
local macro_rules | `(tactic| walk_at "call type:range") => `(tactic| (k_here; (rename Fr _ _ _ _ => F'); (rename News _ _ _ _ => N'); first
  | (with_unfolding_all refine range1_rows F' N' ?_; intro _ _ _ _ _ _ _ _ _)
  | (with_unfolding_all refine range2_rows F' N' ?_; intro _ _ _ _ _ _ _ _ _)))

local macro_rules | `(tactic| walk_at "my all2") => `(tactic| first | assumption | exact All2.push ⟨_, rfl⟩ (by assumption))
local macro_rules | `(tactic| walk_at "my idx") => `(tactic| ((try simp only [List.length_append, List.length_cons, List.length_nil, List.length_set]); omega))
local macro_rules | `(tactic| walk_at "call builtin:list.append") => `(tactic| (k_here; (with_reducible show wpAny _ _ (call (Value.builtin _) [Value.ref _, _]) _ _ _); k_dflt (refine' append_L ?k1 ?k2 ?k3 ?z ?_; (case k1 => k_asm); (case k2 => k_asm); (case k3 => k_upd); (case z => walk_at "my idx")); intro h' F' N'))
local macro_rules | `(tactic| walk_at "setItem ref int") => `(tactic| (k_here; (with_reducible show wpAny _ _ (setItem (Value.ref _) (Value.int _ _) (Value.bytes _ _)) _ _ _); k_dflt (refine' set_L ?k1 ?k2 ?k3 ?k4 ?k5 ?k6 ?_; (case k1 => k_asm); (case k2 => k_asm); (case k3 => k_upd); (case k4 => walk_at "my idx"); (case k5 => walk_at "my idx"); (case k6 => walk_at "my idx")); intro h' F' N'))
local macro_rules | `(tactic| walk_at "binaryOp Add bytes bytes") => `(tactic| (k_here; k_dflt (refine' add_B (ys := [255]) ?z ?a in_255 ?_; (case a => assumption); (case z => walk_at "my idx")); intro _ _))
local macro_rules | `(tactic| walk_at "subscriptTail") => `(tactic| (k_here; (with_reducible show wpAny _ _ (subscriptTail _ _ (Value.ref _) (Value.int _ _)) _ _ _); k_dflt (refine' sub_bytes ?k1 ?k2 ?k3 ?k4 ?k5 ?k6 ?_ ?k7; (case k1 => k_asm); (case k2 => k_mem); (case k3 => walk_at "my all2"); (case k4 => walk_at "my idx"); (case k5 => walk_at "my idx"); (case k6 => walk_at "my idx"); (case k7 => with_unfolding_all rfl)); intro _))
local macro_rules | `(tactic| walk_at "subscriptTail") => `(tactic| (k_here; (with_reducible show wpAny _ _ (subscriptTail _ _ (Value.ref _) (Value.int _ _)) _ _ _); k_dflt (refine' sub_conds ?k1 ?k2 ?k3 ?k4 ?k5 ?k6 ?_ ?k7; (case k1 => k_asm); (case k2 => k_mem); (case k3 => walk_at "my all2"); (case k4 => walk_at "my idx"); (case k5 => walk_at "my idx"); (case k6 => walk_at "my idx"); (case k7 => with_unfolding_all rfl)); intro _ hcv'))
local macro_rules | `(tactic| walk_at "subscriptTail") => `(tactic| (k_here; (with_reducible show wpAny _ _ (subscriptTail _ _ (Value.ref _) (Value.int _ _)) _ _ _); k_dflt (refine' sub_last ?k1 ?k2 ?k4 ?k5 ?_ ?k7; (case k1 => k_asm); (case k2 => k_mem); (case k4 => walk_at "my idx"); (case k5 => walk_at "my idx"); (case k7 => with_unfolding_all rfl))))

def Inv (mn lg : Nat) (row₀ : List Int) (i : Nat) (ms cs : List Int) (rs : List (List Int)) (sp : Int) : Prop :=
  ms.length = i + 1 ∧ cs.length = i + 1 ∧ rs.length = i + 1 ∧ (∀ j, j < i + 1 → ms.getD j 0 = Int.fmod (-(cs.getD j 0)) 256) ∧ (∀ j, j < i + 1 → KBa.In (rs.getD j [])) ∧
  (∀ j, j < i + 1 → (rs.getD j []).length = if j = lg + 1 then mn + 1 else mn) ∧ 0 ≤ sp ∧ sp ≤ 14 + 12 * (i : Int) ∧ rs.getD 0 [] = row₀
theorem Inv.zero {mn lg : Nat} {row : List Int} (hl : row.length = mn) (hr : KBa.In row) (hm : mn < 10) : Inv mn lg row 0 [0] [0] [row] (4 + (mn : Int)) := by
  refine ⟨rfl, rfl, rfl, ?_, ?_, ?_, by omega, by omega, rfl⟩
  · intro j hj
    have : j = 0 := by omega
    subst this; rfl
  · intro j hj
    have : j = 0 := by omega
    subst this; exact hr
  · intro j hj
    have : j = 0 := by omega
    subst this
    rw [if_neg (by omega)]; exact hl
theorem getD_push {α : Type} (l : List α) (x d : α) {j i : Nat} (hl : l.length = i) (hj : j < i + 1) : (l ++ [x]).getD j d = if j = i then x else l.getD j d := by
  rw [List.getD_eq_getElem?_getD, List.getD_eq_getElem?_getD]
  by_cases e : j = i
  · subst e; subst hl; simp
  · rw [if_neg e, List.getElem?_append_left (by omega)]
theorem Inv.push {mn lg i : Nat} {ms cs : List Int} {rs : List (List Int)} {sp sp' mk c : Int} {row row₀ : List Int} (h : Inv mn lg row₀ i ms cs rs sp) (hm : mk = Int.fmod (-c) 256) (hr : KBa.In row) (hl : row.length = if i = lg then mn + 1 else mn) (hsp : sp' = sp + (2 + (mn : Int))) (hmn : (mn : Int) < 10) :
    Inv mn lg row₀ (i + 1) (ms ++ [mk]) (cs ++ [c]) (rs ++ [row]) sp' := by
  obtain ⟨j1, j2, j3, j4, j5, j6, j7, j8, j9⟩ := h
  refine ⟨by simp [j1], by simp [j2], by simp [j3], fun j hj => ?_, fun j hj => ?_, fun j hj => ?_, by omega, by omega, by rw [getD_push _ _ _ j3 (Nat.succ_pos _), if_neg (by omega)]; exact j9⟩
  · rw [getD_push _ _ _ j1 hj, getD_push _ _ _ j2 hj]
    by_cases e : j = i + 1
    · rw [if_pos e, if_pos e]; exact hm
    · rw [if_neg e, if_neg e]; exact j4 j (by omega)
  · rw [getD_push _ _ _ j3 hj]
    by_cases e : j = i + 1
    · rw [if_pos e]; exact hr
    · rw [if_neg e]; exact j5 j (by omega)
  · rw [getD_push _ _ _ j3 hj]
    by_cases e : j = i + 1
    · rw [if_pos e, hl]
      by_cases e2 : i = lg
      · rw [if_pos e2, if_pos (by omega)]
      · rw [if_neg e2, if_neg (by omega)]
    · rw [if_neg e]; exact j6 j (by omega)
theorem Inv.push_set {mn lg i : Nat} {ms cs : List Int} {rs : List (List Int)} {sp sp' mk c : Int} {row row' row₀ : List Int} {k : Nat} (h : Inv mn lg row₀ i ms cs rs sp) (hk : k = i + 1) (hm : mk = Int.fmod (-c) 256) (hr : KBa.In row') (hl : row'.length = if i = lg then mn + 1 else mn) (hsp : sp' = sp + (2 + (mn : Int))) (hmn : (mn : Int) < 10) :
    Inv mn lg row₀ (i + 1) (ms ++ [mk]) (cs ++ [c]) ((rs ++ [row]).set k row') sp' := by
  have e : (rs ++ [row]).set k row' = rs ++ [row'] := by
    rw [List.set_append_right _ _ (by rw [h.2.2.1]; omega), h.2.2.1, hk]
    simp
  rw [e]
  exact h.push hm hr hl hsp hmn
theorem in_app {xs ys : List Int} (hx : KBa.In xs) (hy : KBa.In ys) : KBa.In (xs ++ ys) := fun n hn => (List.mem_append.mp hn).elim (hx n) (hy n)

local macro_rules | `(tactic| walk_at "my turn") => `(tactic| (
    rename Inv _ _ _ _ _ _ _ _ => hJ
    refine' bld_end ?F ?N ?h1 ?h2 ?h3 ?h4 ?h5 ?i1 ?i2 ?i3 ?i4 ?i5 ?i6 ?i7
    case F => assumption
    case N => assumption
    case h1 => k_memK
    case h2 => k_memK
    case h3 => k_memK
    case h4 => (with_unfolding_all ((try simp only [List.nil_append, List.cons_append]); k_allIn))
    case h5 => (intro p hp; k_ownIn)
    case i1 => assumption
    case i2 => assumption
    case i3 => first | exact CondIs.int _ _ | exact CondIs.bool _
    case i4 => first | (refine' All2.push ?r ?h; (case h => assumption); (case r => exact ⟨_, rfl⟩)) | (refine' All2.set ?r (All2.push ?r2 ?h) _; (case h => assumption); (case r2 => exact ⟨_, rfl⟩); (case r => exact ⟨_, rfl⟩))
    case i5 => rfl
    case i6 => (intro z g1 g2 g3 g4; simp [g1, g2, g3, g4])
    case i7 => first
      | exact hJ.push (by first | rfl | (rw [Int.zero_sub]) | decide) (by assumption) (by rw [if_neg (by omega)]; assumption) rfl (by assumption)
      | exact hJ.push_set (by omega) (by first | rfl | (rw [Int.zero_sub]) | decide) (in_app (by assumption) in_255) (by rw [if_pos (by omega), List.length_append]; simp only [List.length_cons, List.length_nil]; omega) rfl (by assumption)))

theorem T1 : PySem.Challenge.rw_yd0001_01.Holds := Mine.hd (by
  k_go0
  have hMk9 : KstMark := kstMark
  rename IntsAre _ _ => hI
  rename List Int => ns
  obtain ⟨mn, hM, hmn⟩ := pick_nat ns 0 10 (by decide)
  obtain ⟨tn, hT, htn⟩ := pick_nat ns 1 8 (by decide)
  obtain ⟨lg, hLg, hlg⟩ := pick_nat ns 2 20 (by decide)
  walk_at "my steps"
  rename_i hR F1 N1 _
  rename List Int => row
  have hrow : row.length = mn := by assumption
  refine bld (ms := [0]) (cs := [0]) (rs := [row]) (Inv mn lg row) rfl hR rfl (by omega) F1 N1 (.cons _ _ .nil) (.cons (.int _ _) .nil) (.cons ⟨_, rfl⟩ .nil) rfl (Inv.zero hrow (by assumption) (by omega)) ?_ ?_
  · intro i mv ms mk' cv cs ck rv rs rk sp spt t u h tk own hlt hoff hmv hcv hrv hJ F2 N2
    obtain ⟨j1, j2, j3, j4, j5, j6, j7, j8, j9⟩ := id hJ
    have lmv := hmv.length
    have lcv := All2.length hcv
    have lrv := All2.length hrv
    walk_at "my steps"
    all_goals (walk_at "my turn"; done)
  · intro mv ms mk' cv cs ck rv rs rk sp spt u h tk hmv hcv hrv hJ F2 N2
    obtain ⟨j1, j2, j3, j4, j5, j6, j7, j8, j9⟩ := hJ
    have lmv := hmv.length
    have lcv := All2.length hcv
    have lrv := All2.length hrv
    walk_at "my steps"
    rename_i hR3 F3 N3 _
    refine' rngS (σ := List Int × Tok) (fun _ => _) (fun c => [("state", Value.bytes (byteArr c.1) c.2)]) [] (fun k c => c.1 = stAt rs cs k ∧ ∀ j, j ≤ k → (rs.getD j []).length = mn) (row, _) rfl hR3 (n := tn) ⟨by decide, by omega⟩ (by omega) F3 N3 ?hj ?hk ?_ ?_
    case hk => (intro p hp; rw [List.mem_singleton.mp hp]; rfl)
    case hj =>
      refine ⟨j9.symm, fun j hj => ?_⟩
      rw [j6 j (by omega), if_neg (by omega)]
    · rintro i ⟨st, stt⟩ t' u' h' tk' own hlt hoff ⟨e, hl⟩ F4 N4
      dsimp only [kstB] at F4 N4 e
      have hlen : st.length = mn := by rw [e]; exact stAt_len hl
      have hin : KBa.In st := by rw [e]; exact stAt_in hl fun j hj => j5 j (by omega)
      have hin2 : KBa.In (rs.getD (1 + (i : Int)).toNat []) := j5 _ (by omega)
      have hlen2 := j6 (1 + (i : Int)).toNat (by omega)
      have hlen3 : (rs.getD (1 + (i : Int)).toNat []).length < 20 := by rw [hlen2]; split <;> omega
      walk_at "my steps"
      have e1 : (1 + (i : Int)).toNat = i + 1 := by omega
      rename List.length _ = List.length _ => hl'
      refine' rs_end (_, _) (by assumption) (by assumption) ?gJ ?gk ?gr rfl ?gn ?go
      case gk => (intro p hp; rw [List.mem_singleton.mp hp]; rfl)
      case gr => (intro z g1 g2 g3; have g4 := g2 _ (.head _); simp [g1, g4])
      case gn => first | exact (fun p hp => List.mem_append_left _ hp) | (with_unfolding_all ((try simp only [List.nil_append, List.cons_append]); k_allIn))
      case go => first | exact (fun p hp => List.mem_append_right _ hp) | (intro p hp; k_ownIn)
      case gJ =>
        refine ⟨?_, fun j hj => ?_⟩
        · show selRow (Int.fmod (-(cs.getD (1 + (i : Int)).toNat 0)) 256) st (rs.getD (1 + (i : Int)).toNat []) = _
          rw [e1, e]; rfl
        · by_cases hj' : j = i + 1
          · rw [hj', ← e1, hl', hlen]
          · exact hl j (by omega)
    · rintro ⟨st, stt⟩ u' h' tk' ⟨e, hl⟩ F4 N4
      dsimp only [kstB] at F4 N4 e
      have hge : tn ≤ lg := by
        apply Nat.le_of_not_lt; intro hx
        have g1 := j6 (lg + 1) (by omega)
        have g2 := hl (lg + 1) (by omega)
        rw [if_pos rfl] at g1
        omega
      walk_at "my steps"
      rename_i hR5 F5 N5 _
      refine' rngS (σ := List Value × List Int × Nat) (fun c => (_, listOf c.1.toArray c.2.2) :: _) (fun _ => []) ["octet", "bit", "owner", "i"] (fun k c => IntsAre c.1 c.2.1 ∧ c.2.1 = (List.range k).map (toldAt rs ms tn)) ([], [], 0) rfl hR5 (n := mn) ⟨by decide, by omega⟩ (by omega) F5 N5 ⟨.nil, rfl⟩ (fun _ h => nomatch h) ?_ ?_
      · rintro a ⟨us, ks, kn⟩ t u h tk own hlt hoff ⟨hi, ek⟩ F6 N6
        dsimp only [kstB] at F6 N6 hi ek
        walk_at "my steps"
        rename_i hR7 F7 N7 _
        refine' rngS (σ := Int × Tok) (fun _ => _) (fun c => [("octet", Value.int c.1 c.2)]) ["owner", "i"] (fun b c => c.1 = bsum (fun b => bt ((rs.getD (ownAt ms b tn) []).getD a 0) b) b) (0, _) rfl hR7 (n := 8) ⟨by decide, by omega⟩ (by omega) F7 N7 rfl ?hk ?_ ?_
        case hk => (intro p hp; rw [List.mem_singleton.mp hp]; rfl)
        · rintro b ⟨oc, oct⟩ t2 u2 h2 tk2 own2 hlt2 hoff2 eo F8 N8
          dsimp only [kstB] at F8 N8 eo
          walk_at "my steps"
          rename_i hR9 F9 N9 _
          refine' rngS (σ := Int × Tok) (fun _ => _) (fun c => [("owner", Value.int c.1 c.2)]) [] (fun k c => c.1 = (ownAt ms b k : Int)) (0, _) rfl hR9 (n := tn) ⟨by decide, by omega⟩ (by omega) F9 N9 rfl ?hk ?_ ?_
          case hk => (intro p hp; rw [List.mem_singleton.mp hp]; rfl)
          · rintro i ⟨ow, owt⟩ t3 u3 h3 tk3 own3 hlt3 hoff3 ew F10 N10
            dsimp only [kstB] at F10 N10 ew
            have e1 : (1 + (i : Int)).toNat = i + 1 := by omega
            walk_at "my steps"
            · rename Int.fmod _ _ = 1 => hb1
              rw [bt_f, e1] at hb1
              refine' rs_end (_, _) (by assumption) (by assumption) ?gJ ?gk ?gr rfl ?gn ?go
              case gk => (intro p hp; rw [List.mem_singleton.mp hp]; rfl)
              case gr => (intro z g1 g2 g3; have g4 := g2 _ (.head _); simp [g1, g4])
              case gn => first | exact (fun p hp => List.mem_append_left _ hp) | (with_unfolding_all ((try simp only [List.nil_append, List.cons_append]); k_allIn))
              case go => first | exact (fun p hp => List.mem_append_right _ hp) | (intro p hp; k_ownIn)
              case gJ =>
                show (1 + (i : Int)) = ((if bt (ms.getD (i + 1) 0) b = 1 then i + 1 else ownAt ms b i : Nat) : Int)
                rw [if_pos hb1]; omega
            · rename Int.fmod _ _ ≠ 1 => hb1
              rw [bt_f, e1] at hb1
              refine' rs_end (_, _) (by assumption) (by assumption) ?gJ ?gk ?gr rfl ?gn ?go
              case gk => (intro p hp; rw [List.mem_singleton.mp hp]; rfl)
              case gr => (intro z g1 g2 g3; have g4 := g2 _ (.head _); simp [g1, g4])
              case gn => first | exact (fun p hp => List.mem_append_left _ hp) | (with_unfolding_all ((try simp only [List.nil_append, List.cons_append]); k_allIn))
              case go => first | exact (fun p hp => List.mem_append_right _ hp) | (intro p hp; k_ownIn)
              case gJ =>
                show ow = ((if bt (ms.getD (i + 1) 0) b = 1 then i + 1 else ownAt ms b i : Nat) : Int)
                rw [if_neg hb1]; exact ew
          · rintro ⟨ow, owt⟩ u3 h3 tk3 ew F10 N10
            dsimp only [kstB] at F10 N10 ew
            subst ew
            have how := ownAt_le ms b tn
            have hbi := KBa.ints_make (j5 (ownAt ms b tn : Int).toNat (by omega))
            have hbl := hl (ownAt ms b tn : Int).toNat (by omega)
            walk_at "my steps"
            refine' rs_end (_, _) (by assumption) (by assumption) ?gJ ?gk ?gr rfl ?gn ?go
            case gk => (intro p hp; rw [List.mem_singleton.mp hp]; rfl)
            case gr => (intro z g1 g2 g3; have g4 := g2 _ (.head _); (simp only [List.contains_cons, List.contains_nil, Bool.or_false, Bool.or_eq_false_iff, beq_eq_false_iff_ne] at g3); simp [g1, g4, g3])
            case gn => exact (fun p hp => List.mem_append_left _ hp)
            case go => exact (fun p hp => List.mem_append_right _ hp)
            case gJ =>
              show oc + _ = bsum _ b + bt _ b * 2 ^ b
              rw [eo, bt_f]
              have e2 : (0 + (b : Int)).toNat = b := by omega
              have e3 : (0 + (a : Int)).toNat = a := by omega
              rw [e2, e3]
              rfl
        · rintro ⟨oc, oct⟩ u2 h2 tk2 eo F8 N8
          dsimp only [kstB] at F8 N8 eo
          have lus : us.length = a := by rw [hi.length, ek]; simp
          walk_at "my steps"
          refine' rs_end (us ++ [Value.int oc oct], ks ++ [oc], kn + 1) (by assumption) (by assumption) ?gJ ?gk ?gr rfl ?gn ?go
          case gk => (intro _ h; nomatch h)
          case gr => (intro z g1 g2 g3; (simp only [List.contains_cons, List.contains_nil, Bool.or_false, Bool.or_eq_false_iff, beq_eq_false_iff_ne] at g3); simp [g1, g3])
          case gn => (with_unfolding_all ((try simp only [List.nil_append, List.cons_append]); k_allIn))
          case go => (intro p hp; k_ownIn)
          case gJ =>
            refine ⟨ints_push hi, ?_⟩
            show ks ++ [oc] = _
            rw [ek, eo, List.range_succ, List.map_append]; rfl
      · rintro ⟨us, ks, kn⟩ u h tk ⟨hi, ek⟩ F6 N6
        dsimp only [kstB] at F6 N6 hi ek
        have es : st = ks := by
          rw [e, ek]
          exact told_all hl (fun j hj => j5 j (by omega)) (fun j hj => j4 j (by omega))
        subst es
        have hin : KBa.In st := by rw [e]; exact stAt_in hl fun j hj => j5 j (by omega)
        have hlen : st.length = mn := by rw [e]; exact stAt_len hl
        walk_at "my steps"
        done)
end Mine

theorem PySem.Challenge.cw_yd0001_01_holds : PySem.Challenge.rw_yd0001_01.Holds :=
  Mine.T1
