import PyProof.Rows.All
import Wide.All
import OpenK.AllK
import Wide.FinOn
import PySem.Challenge.RW_wn0103_01
open PySem PySem.W PyProof.Rows
set_option Elab.async false
set_option maxRecDepth 100000
set_option maxHeartbeats 8000000
namespace Mine
def tiny : PySem.Str := PySem.Str.ofString "a"
theorem tiny_eq : tiny = tiny := rfl
name_quick tw8075568018651887793 for tiny by tiny_eq
name_quick tw14979626087600564940 for tiny by tiny_eq
name_quick tw11370707598442023392 for tiny by tiny_eq
name_quick tw2208419985527094370 for tiny by tiny_eq
name_quick tw1486927313064005944 for tiny by tiny_eq
name_quick tw8271852410755176070 for tiny by tiny_eq
name_quick tw11935384120112590319 for tiny by tiny_eq
name_quick tw15587867472590373358 for tiny by tiny_eq
name_quick tw1652650375092770541 for tiny by tiny_eq
name_quick tw5706481520468235054 for tiny by tiny_eq
name_quick tw4292500188555128830 for tiny by tiny_eq
name_quick tw13254397897704925713 for tiny by tiny_eq
name_quick tw11953951171794560508 for tiny by tiny_eq
name_quick tw11304879220846320617 for tiny by tiny_eq
name_quick tw8727135674562949291 for tiny by tiny_eq
name_quick tw5189142188285759775 for tiny by tiny_eq
name_quick tw14487725735874088081 for tiny by tiny_eq
name_quick tw6929956602132211858 for tiny by tiny_eq
name_quick tw6623780062484046687 for tiny by tiny_eq
name_quick tw12700139031502230420 for tiny by tiny_eq
name_quick tw6528253989541921203 for tiny by tiny_eq
name_quick tw6309420706278071738 for tiny by tiny_eq
name_quick tw43969757491396457 for tiny by tiny_eq
name_quick tw11853533878840232495 for tiny by tiny_eq
name_quick tw8897938508979226211 for tiny by tiny_eq
name_quick tw5349121933718820234 for tiny by tiny_eq
name_quick tw15168306246750427876 for tiny by tiny_eq
name_quick tw16817318245366136608 for tiny by tiny_eq
name_quick tw4552823106982906706 for tiny by tiny_eq
name_quick tw5396446701170858492 for tiny by tiny_eq
name_quick tw3766158894648301139 for tiny by tiny_eq
name_quick tw1092655722715705105 for tiny by tiny_eq
name_quick tw2611137233208623240 for tiny by tiny_eq
name_quick tw14530364306720264245 for tiny by tiny_eq
name_quick tw15475462885187679331 for tiny by tiny_eq
name_quick tw4071324889030633612 for tiny by tiny_eq
name_quick tw17111948838632640456 for tiny by tiny_eq
name_quick tw7299303143086499733 for tiny by tiny_eq
name_quick tw12268644228514654432 for tiny by tiny_eq
name_quick tw4011157648589011858 for tiny by tiny_eq
name_quick tw14553827428707814869 for tiny by tiny_eq
name_quick tw1258717718454355964 for tiny by tiny_eq
name_quick tw7323676302269181137 for tiny by tiny_eq
name_quick tw10833955939284561965 for tiny by tiny_eq
name_quick tw18101931140130867144 for tiny by tiny_eq
name_quick tw10887116778572429059 for tiny by tiny_eq
name_quick tw505943868828395459 for tiny by tiny_eq
name_quick tw3577408171920636059 for tiny by tiny_eq
name_quick tw16593013826814733010 for tiny by tiny_eq
name_quick tw932993149863042379 for tiny by tiny_eq
name_quick tw11566699232636054958 for tiny by tiny_eq
name_quick tw136631920214876835 for tiny by tiny_eq
name_quick tw11588390666370768167 for tiny by tiny_eq
name_quick tw3131671291697673992 for tiny by tiny_eq
name_quick tw11788150170368784547 for tiny by tiny_eq
name_quick tw18260038339965228139 for tiny by tiny_eq
name_quick tw13789449189825218787 for tiny by tiny_eq
name_quick tw10029231156530900338 for tiny by tiny_eq
name_quick tw13512673800721320934 for tiny by tiny_eq
name_quick tw10424941004445345732 for tiny by tiny_eq
open_top hd for PySem.Challenge.rw_wn0103_01
end Mine
section
namespace Mine
/-- a contract of a def of the text: what it gives back, what it has made -/
def Con (w : World) (mean : ExcName → Option Value) (mg mb : Str → Option Value) (f : Addr) (dd uu : Nat) (news : List (Addr × Obj)) (vs : List Value) (R : Value → List (Addr × Obj) → Prop) : Prop :=
  ∀ (dp un : Nat) (gd : Option (List Code)) (cn : Str) (cs : Scope) (a : Addr) (ccd : Value) (cl : List (Str × Addr)) (outer : List Env) (A₀ : Around) (base h₀ : Heap) (L : Addr) (m : Str → Option Value) (s : Shared) (Q E : Value → Shared → Prop),
    Below A₀ base outer h₀ → Fr h₀ L s.heap m → (hd.heap_39 w.params).In h₀ → News h₀ L s.heap news → Top hd.view_39 (looseW hd.view_39 [Str.ofString "EXACT_TOKEN_TYPES"]) mean mg mb h₀ → cs.kind = .function → dp + dd < recursionLimit → un + uu < cLine →
    (∀ r nx h' tk', Fr h₀ L h' m → News h₀ L h' nx → R r nx → Q r { s with heap := h', toks := tk' }) →
    wpAny (model Challenge.rw_wn0103_01.row.prog w) (ktrTop dp un gd cn cs L a ccd cl outer) (call (.ref f) vs) Q E s
structure Hold (P : Prop) : Prop where
  out : P
end Mine
namespace Mine
section
variable {h₀ h : Heap} {L a b c d e f : Addr} {o o2 o3 o4 o5 o6 : Obj} {r : List (Addr × Obj)}
theorem nm1 (_N : News h₀ L h ((a, o) :: r)) : ∃ a', a' = a := ⟨a, rfl⟩
theorem nm2 (_N : News h₀ L h ((a, o) :: (b, o2) :: r)) : ∃ a', a' = b := ⟨b, rfl⟩
theorem nm3 (_N : News h₀ L h ((a, o) :: (b, o2) :: (c, o3) :: r)) : ∃ a', a' = c := ⟨c, rfl⟩
theorem nm4 (_N : News h₀ L h ((a, o) :: (b, o2) :: (c, o3) :: (d, o4) :: r)) : ∃ a', a' = d := ⟨d, rfl⟩
theorem nm5 (_N : News h₀ L h ((a, o) :: (b, o2) :: (c, o3) :: (d, o4) :: (e, o5) :: r)) : ∃ a', a' = e := ⟨e, rfl⟩
theorem nm6 (_N : News h₀ L h ((a, o) :: (b, o2) :: (c, o3) :: (d, o4) :: (e, o5) :: (f, o6) :: r)) : ∃ a', a' = f := ⟨f, rfl⟩
theorem nmV {vs : List Value} {ns : List Int} (_I : IntsAre vs ns) : ∃ vs', vs' = vs := ⟨vs, rfl⟩
theorem nmS {vs : List Value} {ns : List Str} (_I : StrsAre vs ns) : ∃ vs', vs' = vs := ⟨vs, rfl⟩
end
end Mine
namespace Mine
theorem frmap {h₀ h : Heap} {L : Addr} {m : Str → Option Value} (m' : Str → Option Value) (F : Fr h₀ L h m) (e : m = m') : Fr h₀ L h m' := e ▸ F
end Mine
namespace Mine
/-- a contract under a premise of the heap below -/
def ConB (Pre : Heap → Prop) (w : World) (mean : ExcName → Option Value) (mg mb : Str → Option Value) (f : Addr) (dd uu : Nat) (news : List (Addr × Obj)) (vs : List Value) (R : Value → List (Addr × Obj) → Prop) : Prop :=
  ∀ (dp un : Nat) (gd : Option (List Code)) (cn : Str) (cs : Scope) (a : Addr) (ccd : Value) (cl : List (Str × Addr)) (outer : List Env) (A₀ : Around) (base h₀ : Heap) (L : Addr) (m : Str → Option Value) (s : Shared) (Q E : Value → Shared → Prop),
    Below A₀ base outer h₀ → Fr h₀ L s.heap m → (hd.heap_39 w.params).In h₀ → News h₀ L s.heap news → Top hd.view_39 (looseW hd.view_39 [Str.ofString "EXACT_TOKEN_TYPES"]) mean mg mb h₀ → cs.kind = .function → dp + dd < recursionLimit → un + uu < cLine → Pre base →
    (∀ r nx h' tk', Fr h₀ L h' m → News h₀ L h' nx → R r nx → Q r { s with heap := h', toks := tk' }) →
    wpAny (model Challenge.rw_wn0103_01.row.prog w) (ktrTop dp un gd cn cs L a ccd cl outer) (call (.ref f) vs) Q E s
end Mine
namespace Mine
theorem ne_of_allLt {d : Addr} : ∀ {l : List (Addr × Obj)}, AllLt d l → ∀ p ∈ l, p.1 ≠ d
  | [], _, _, hp => nomatch hp
  | q :: _, h, p, hp => by
    rcases List.mem_cons.mp hp with rfl | hp
    · exact Nat.ne_of_lt h.1
    · exact ne_of_allLt h.2 p hp
end Mine
namespace Mine
section
variable {h₀ h : Heap} {L a b : Addr} {o o2 : Obj} {r : List (Addr × Obj)}
theorem nmO1 (_N : News h₀ L h ((a, o) :: r)) : ∃ o', o' = o := ⟨o, rfl⟩
theorem nmO2 (_N : News h₀ L h ((a, o) :: (b, o2) :: r)) : ∃ o', o' = o2 := ⟨o2, rfl⟩
end
end Mine
namespace Mine
theorem ite_max (x w : Nat) : (if 1 + (x : Int) > (w : Int) then 1 + (x : Int) else (w : Int)) = ((max w (1 + x) : Nat) : Int) := by
  split <;> omega
end Mine
namespace Mine
/-- a dict of ints, as the walk knows it -/
def IntDict (w : World) (o : Obj) (c : List (Int × Int)) : Prop :=
  ∃ kvs : List (Int × Value), o.IsDictOf (PySem.intKind Challenge.rw_wn0103_01.row.prog w) kvs ∧ PyProof.V.FlatPairs PyData.int kvs (kdfD c)
abbrev tup2 (a b : Addr) : Obj := { cls := .type "tuple", data := .seq #[.ref a, .ref b] }
end Mine
namespace Mine
theorem inL {A own news' : List (Addr × Obj)} (e : news' = A ++ own) : ∀ p ∈ A, p ∈ news' := fun _ h => e ▸ List.mem_append_left own h
end Mine
end
section
namespace Mine
/-! plain functions and their laws: no program in sight -/
theorem xor_add_and (n : Nat) : ∀ a b : Nat, a ≤ n → (a ^^^ b) + 2 * (a &&& b) = a + b := by
  induction n using Nat.strongRecOn with
  | ind n ih =>
    intro a b h
    by_cases h0 : a = 0
    · subst h0; simp
    · have h1 := ih (a / 2) (by omega) (a / 2) (b / 2) (Nat.le_refl _)
      have e1 : (a ^^^ b) / 2 = a / 2 ^^^ b / 2 := Nat.xor_div_two
      have e2 : (a &&& b) / 2 = a / 2 &&& b / 2 := Nat.and_div_two
      have e3 : (a ^^^ b) % 2 = (a % 2) ^^^ (b % 2) := Nat.xor_mod_two_pow (n := 1)
      have e4 : (a &&& b) % 2 = (a % 2) &&& (b % 2) := Nat.and_mod_two_pow (n := 1)
      rw [← e1, ← e2] at h1
      have ha : a % 2 = 0 ∨ a % 2 = 1 := by omega
      have hb : b % 2 = 0 ∨ b % 2 = 1 := by omega
      rcases ha with ha | ha <;> rcases hb with hb | hb <;> rw [ha, hb] at e3 e4 <;> simp only [Nat.reduceXor, Nat.reduceAnd] at e3 e4 <;> omega
theorem bitXor_nat (a b : Nat) : Builtin.bitXor (a : Int) (b : Int) = ((a ^^^ b : Nat) : Int) := by
  rw [bitXor_and, bitAnd_pp (by omega) (by omega)]
  have := xor_add_and a a b (Nat.le_refl _)
  simp only [Int.toNat_natCast]
  omega
theorem bitAnd_nat (a b : Nat) : Builtin.bitAnd (a : Int) (b : Int) = ((a &&& b : Nat) : Int) := by
  rw [bitAnd_pp (by omega) (by omega)]; simp only [Int.toNat_natCast]
theorem shr_nat (a k : Nat) : Int.fdiv (a : Int) (2 ^ k) = ((a >>> k : Nat) : Int) := by
  rw [Int.fdiv_eq_ediv_of_nonneg _ (by exact_mod_cast Nat.zero_le (2 ^ k)), Nat.shiftRight_eq_div_pow]
  push_cast
  rfl
theorem bit_nat (a k : Nat) : Builtin.bitAnd (Int.fdiv (a : Int) (2 ^ k)) 1 = (if a.testBit k then 1 else 0) := by
  rw [shr_nat]
  have := bitAnd_nat (a >>> k) 1
  rw [show ((1 : Nat) : Int) = 1 from rfl] at this
  rw [this, Nat.and_one_is_mod]
  unfold Nat.testBit
  rw [Nat.one_and_eq_mod_two]
  have h : a >>> k % 2 = 0 ∨ a >>> k % 2 = 1 := by omega
  rcases h with h | h <;> rw [h] <;> simp
def IsMex (l : List Nat) (w : Nat) : Prop := w ∉ l ∧ ∀ v, v < w → v ∈ l
theorem isMex_unique {l l' : List Nat} {a b : Nat} (h : ∀ v, v ∈ l ↔ v ∈ l') (ha : IsMex l a) (hb : IsMex l' b) : a = b := by
  rcases Nat.lt_trichotomy a b with c | c | c
  · exact absurd ((h a).mpr (hb.2 a c)) ha.1
  · exact c
  · exact absurd ((h b).mp (ha.2 b c)) hb.1
theorem holes : ∀ (n : Nat) (l : List Nat), (∀ v, v < n → v ∈ l) → n ≤ l.length
  | 0, _, _ => Nat.zero_le _
  | n + 1, l, h => by
    have hm := h n (Nat.lt_succ_self n)
    have := holes n (l.erase n) fun v hv => (List.mem_erase_of_ne (Nat.ne_of_lt hv)).mpr (h v (Nat.lt_succ_of_lt hv))
    rw [List.length_erase_of_mem hm] at this
    have := List.length_pos_of_mem hm
    omega
def mexGo (l : List Nat) : Nat → Nat → Nat
  | 0, w => w
  | f + 1, w => if w ∈ l then mexGo l f (w + 1) else w
def mex (l : List Nat) : Nat := mexGo l (l.length + 1) 0
theorem mexGo_is (l : List Nat) : ∀ f w, (∀ v, v < w → v ∈ l) → l.length < f + w → IsMex l (mexGo l f w)
  | 0, w, h, hf => absurd (holes w l h) (by omega)
  | f + 1, w, h, hf => by
    unfold mexGo
    by_cases hw : w ∈ l
    · rw [if_pos hw]
      exact mexGo_is l f (w + 1) (fun v hv => by
        rcases Nat.lt_or_ge v w with c | c
        · exact h v c
        · have : v = w := by omega
          rw [this]; exact hw) (by omega)
    · rw [if_neg hw]; exact ⟨hw, h⟩
theorem mex_is (l : List Nat) : IsMex l (mex l) := mexGo_is l _ 0 (fun v hv => absurd hv (Nat.not_lt_zero v)) (by omega)
theorem mex_le (l : List Nat) : mex l ≤ l.length := holes _ _ (mex_is l).2
theorem mex_eq {l l' : List Nat} {w : Nat} (h : ∀ v, v ∈ l ↔ v ∈ l') (hw : IsMex l' w) : mex l = w := isMex_unique h (mex_is l) hw
def xstep (cs : List Nat) (s acc k : Nat) : Nat := if s.testBit k then acc ^^^ cs.getD k 0 else acc
def xorTo (cs : List Nat) (s t : Nat) : Nat := (List.range t).foldl (xstep cs s) 0
theorem xorTo_succ (cs : List Nat) (s t : Nat) : xorTo cs s (t + 1) = xstep cs s (xorTo cs s t) t := by
  unfold xorTo; rw [List.range_succ, List.foldl_append]; rfl
def nearC (cs : List Nat) (top : Nat) (S : List Nat) : List Nat := (S.filter fun s => s >>> top == 1).map fun s => xorTo cs s top
theorem nearC_append (cs : List Nat) (top : Nat) (S S' : List Nat) : nearC cs top (S ++ S') = nearC cs top S ++ nearC cs top S' := by
  unfold nearC; rw [List.filter_append, List.map_append]
theorem nearC_len (cs : List Nat) (top : Nat) (S : List Nat) : (nearC cs top S).length ≤ S.length := by
  unfold nearC; rw [List.length_map]; exact List.length_filter_le _ _
def coinsTo (S : List Nat) : Nat → List Nat
  | 0 => []
  | t + 1 => coinsTo S t ++ [mex (nearC (coinsTo S t) t S)]
theorem coinsTo_len (S : List Nat) : ∀ t, (coinsTo S t).length = t
  | 0 => rfl
  | t + 1 => by unfold coinsTo; rw [List.length_append, coinsTo_len S t]; rfl
def dstep (R : List Nat) (row acc s : Nat) : Nat := if row ^^^ s < row then max acc (1 + R.getD (row ^^^ s) 0) else acc
def longest (S R : List Nat) (row : Nat) : Nat := S.foldl (dstep R row) 0
def deepTo (S : List Nat) : Nat → List Nat
  | 0 => []
  | n + 1 => deepTo S n ++ [longest S (deepTo S n) n]
theorem deepTo_len (S : List Nat) : ∀ t, (deepTo S t).length = t
  | 0 => rfl
  | t + 1 => by unfold deepTo; rw [List.length_append, deepTo_len S t]; rfl
def up (l : List Nat) : List Int := l.map fun n : Nat => (n : Int)
theorem up_toNat : ∀ l : List Nat, (up l).map Int.toNat = l
  | [] => rfl
  | n :: r => by
    have ih := up_toNat r
    unfold up at ih ⊢
    rw [List.map_cons, List.map_cons, ih, Int.toNat_natCast]
theorem up_len (l : List Nat) : (up l).length = l.length := List.length_map ..
theorem up_append (l r : List Nat) : up (l ++ r) = up l ++ up r := List.map_append ..
theorem up_getD (l : List Nat) (k : Nat) : (up l).getD k 0 = ((l.getD k 0 : Nat) : Int) := by
  unfold up; rw [List.getD_eq_getElem?_getD, List.getD_eq_getElem?_getD, List.getElem?_map]
  cases l[k]? <;> rfl
theorem mem_up {l : List Nat} {x : Int} (h : x ∈ up l) : ∃ n, n ∈ l ∧ x = (n : Int) := by
  obtain ⟨n, hn, rfl⟩ := List.mem_map.mp h; exact ⟨n, hn, rfl⟩
theorem up_any (l : List Nat) (w : Nat) : (up l).any (· == (w : Int)) = decide (w ∈ l) := by
  induction l with
  | nil => simp [up]
  | cons x r ih =>
    unfold up at ih ⊢
    rw [List.map_cons, List.any_cons, ih]
    by_cases h : x = w
    · subst h; simp
    · have h' : ¬ w = x := fun e => h e.symm
      have h2 : ¬ (x : Int) = (w : Int) := fun e => h (by omega)
      simp [h2, h']
def tab (f : Nat → Nat) (r : Nat) : List (Int × Int) := (List.range r).map fun i : Nat => ((i : Int), (f i : Int))
theorem tab_len (f : Nat → Nat) (r : Nat) : (tab f r).length = r := by unfold tab; rw [List.length_map, List.length_range]
theorem tab_succ (f : Nat → Nat) (r : Nat) : tab f (r + 1) = tab f r ++ [((r : Int), (f r : Int))] := by
  unfold tab; rw [List.range_succ, List.map_append]; rfl
theorem tab_has (f : Nat → Nat) (j : Nat) : ∀ r : Nat, kdfHas (tab f r) (j : Int) = decide (j < r)
  | 0 => by simp [tab, kdfHas]
  | r + 1 => by
    have ih := tab_has f j r
    unfold kdfHas at ih ⊢
    rw [tab_succ, List.any_append, ih]
    by_cases h : j < r
    · have : j < r + 1 := by omega
      simp [h, this]
    · by_cases h2 : j = r
      · subst h2; simp
      · have h3 : ¬ j < r + 1 := by omega
        have h4 : ¬ (r : Int) = (j : Int) := by omega
        simp [h, h3, h4]
theorem tab_look (f : Nat → Nat) (j : Nat) : ∀ r : Nat, j < r → kdfLook (tab f r) (j : Int) 0 = (f j : Int)
  | 0, h => absurd h (Nat.not_lt_zero j)
  | r + 1, h => by
    unfold kdfLook
    rw [tab_succ, List.find?_append]
    by_cases h1 : j < r
    · have ih := tab_look f j r h1
      have hh := tab_has f j r
      unfold kdfLook at ih
      unfold kdfHas at hh
      rw [decide_eq_true h1, List.any_eq_true] at hh
      obtain ⟨p, hp, hpj⟩ := hh
      cases hf : (tab f r).find? (fun p => decide (p.1 = (j : Int))) with
      | none => exact absurd hpj (by simpa using List.find?_eq_none.mp hf p hp)
      | some q => rw [hf] at ih; simpa using ih
    · have h2 : j = r := by omega
      subst h2
      have hh := tab_has f j j
      unfold kdfHas at hh
      have hn : (tab f j).find? (fun p => decide (p.1 = (j : Int))) = none := by
        rw [List.find?_eq_none]
        intro p hp hpj
        have : (tab f j).any (fun p => decide (p.1 = (j : Int))) = true := List.any_eq_true.mpr ⟨p, hp, hpj⟩
        rw [hh] at this
        simp at this
      rw [hn]
      simp
theorem tab_put (f : Nat → Nat) (r v : Nat) (h : v = f r) : kdfPut (tab f r) (r : Int) (v : Int) = tab f (r + 1) := by
  have hh := tab_has f r r
  unfold kdfHas at hh
  unfold kdfPut
  rw [if_neg (by rw [hh]; simp), tab_succ, h]
def deepAt (S : List Nat) (j : Nat) : Nat := longest S (deepTo S j) j
theorem deepTo_getD (S : List Nat) (j : Nat) : ∀ n, j < n → (deepTo S n).getD j 0 = deepAt S j
  | 0, h => absurd h (Nat.not_lt_zero j)
  | n + 1, h => by
    unfold deepTo
    rw [List.getD_eq_getElem?_getD, List.getElem?_append]
    by_cases h1 : j < n
    · rw [if_pos (by rw [deepTo_len]; exact h1), ← List.getD_eq_getElem?_getD]
      exact deepTo_getD S j n h1
    · have h2 : j = n := by omega
      subst h2
      rw [if_neg (by rw [deepTo_len]; exact h1), deepTo_len]
      simp [deepAt]
end Mine
end
section
namespace Mine
theorem xx_right (a b : Nat) : (a ^^^ b) ^^^ b = a := by rw [Nat.xor_assoc, Nat.xor_self, Nat.xor_zero]
theorem xx_left (a b : Nat) : a ^^^ (a ^^^ b) = b := by rw [← Nat.xor_assoc, Nat.xor_self, Nat.zero_xor]
theorem xx_mid (a b : Nat) : (a ^^^ b) ^^^ a = b := by rw [Nat.xor_comm, xx_left]
theorem xor_ne {r s : Nat} (h : 1 ≤ s) : r ^^^ s ≠ r := fun e => by
  have := xx_left r s
  rw [e, Nat.xor_self] at this
  omega
theorem xor_lt16 {r s : Nat} (hr : r < 16) (hs : s < 16) : r ^^^ s < 16 := Nat.xor_lt_two_pow (n := 4) hr hs
def cntOf (S dn : List Nat) (q : Nat) : Nat := (S.filter fun s => decide (q ^^^ s < q) && !decide (q ^^^ s ∈ dn)).length
theorem cntOf_append (S S' dn : List Nat) (q : Nat) : cntOf (S ++ S') dn q = cntOf S dn q + cntOf S' dn q := by
  unfold cntOf; rw [List.filter_append, List.length_append]
theorem cntOf_one (s q : Nat) : cntOf [s] [] q = if q ^^^ s < q then 1 else 0 := by
  unfold cntOf
  by_cases h : q ^^^ s < q <;> simp [h]
theorem cntOf_zero {S dn : List Nat} {q : Nat} : cntOf S dn q = 0 ↔ ∀ s ∈ S, q ^^^ s < q → q ^^^ s ∈ dn := by
  unfold cntOf
  rw [List.length_eq_zero_iff, List.filter_eq_nil_iff]
  constructor
  · intro h s hs hlt
    have := h s hs
    by_cases hm : q ^^^ s ∈ dn
    · exact hm
    · simp [hlt, hm] at this
  · intro h s hs
    by_cases hlt : q ^^^ s < q
    · simp [hlt, h s hs hlt]
    · simp [hlt]
theorem filter_drop (p : Nat → Bool) (a : Nat) : ∀ l : List Nat, l.Nodup → (l.filter fun s => p s && !decide (s = a)).length = (l.filter p).length - (if a ∈ l ∧ p a = true then 1 else 0)
  | [], _ => by simp
  | x :: r, hn => by
    obtain ⟨hx, hr⟩ := List.nodup_cons.mp hn
    have ih := filter_drop p a r hr
    by_cases hxa : x = a
    · subst hxa
      have h1 : (if x ∈ r ∧ p x = true then 1 else 0) = 0 := by simp [hx]
      rw [h1, Nat.sub_zero] at ih
      rw [List.filter_cons_of_neg (by simp), ih]
      by_cases hp : p x = true
      · rw [List.filter_cons_of_pos hp, if_pos ⟨List.mem_cons_self, hp⟩, List.length_cons]; omega
      · rw [List.filter_cons_of_neg hp, if_neg (fun h => hp h.2)]; omega
    · have hax : ¬ a = x := fun e => hxa e.symm
      have h1 : (if a ∈ x :: r ∧ p a = true then 1 else 0) = (if a ∈ r ∧ p a = true then 1 else 0) := by simp [hax]
      rw [h1]
      by_cases hp : p x = true
      · rw [List.filter_cons_of_pos (by simp [hp, hxa]), List.filter_cons_of_pos hp, List.length_cons, List.length_cons, ih]
        by_cases hc : a ∈ r ∧ p a = true
        · rw [if_pos hc]
          have : 1 ≤ (r.filter p).length := List.length_pos_of_mem (List.mem_filter.mpr ⟨hc.1, hc.2⟩)
          omega
        · rw [if_neg hc]; omega
      · rw [List.filter_cons_of_neg (by simp [hp]), List.filter_cons_of_neg hp, ih]
theorem cntOf_add {S dn : List Nat} {r q : Nat} (hn : S.Nodup) (hr : r ∉ dn) : cntOf S (dn ++ [r]) q = cntOf S dn q - (if r < q ∧ q ^^^ r ∈ S then 1 else 0) := by
  unfold cntOf
  have h := filter_drop (fun s => decide (q ^^^ s < q) && !decide (q ^^^ s ∈ dn)) (q ^^^ r) S hn
  have e : (fun s => decide (q ^^^ s < q) && !decide (q ^^^ s ∈ dn ++ [r])) = (fun s => (decide (q ^^^ s < q) && !decide (q ^^^ s ∈ dn)) && !decide (s = q ^^^ r)) := by
    funext s
    have hiff : (q ^^^ s = r) ↔ (s = q ^^^ r) := ⟨fun e => by rw [← e, xx_left], fun e => by rw [e, xx_left]⟩
    by_cases h1 : q ^^^ s = r
    · have h2 := hiff.mp h1
      simp [List.mem_append, h1, ← h2]
    · have h2 : ¬ s = q ^^^ r := fun e => h1 (hiff.mpr e)
      simp [List.mem_append, h1, h2]
  rw [e, h, xx_left]
  have : (q ^^^ r ∈ S ∧ (decide (r < q) && !decide (r ∈ dn)) = true) ↔ (r < q ∧ q ^^^ r ∈ S) := by
    simp [hr]; exact And.comm
  simp only [this]
structure DepthOf (S : List Nat) (D : Nat → Nat) : Prop where
  lt : ∀ r s, s ∈ S → r ^^^ s < r → D (r ^^^ s) < D r
  ex : ∀ r, D r ≠ 0 → ∃ s, s ∈ S ∧ r ^^^ s < r ∧ D (r ^^^ s) + 1 = D r
theorem DepthOf.le {S : List Nat} {D : Nat → Nat} (h : DepthOf S D) (r : Nat) : D r ≤ r := by
  induction r using Nat.strongRecOn with
  | ind r ih =>
    by_cases h0 : D r = 0
    · omega
    · obtain ⟨s, _, hlt, he⟩ := h.ex r h0
      have := ih _ hlt
      omega
def pushP (U P : List Nat) (r : Nat) : List Nat := (P.filter fun s => !decide (r ^^^ s < r) && decide (U.getD (r ^^^ s) 0 = 1)).map fun s => r ^^^ s
def nearP (G : Nat → Nat) (P : List Nat) (r : Nat) : List Nat := (P.filter fun s => decide (r ^^^ s < r)).map fun s => G (r ^^^ s)
theorem pushP_append (U P P' : List Nat) (r : Nat) : pushP U (P ++ P') r = pushP U P r ++ pushP U P' r := by
  unfold pushP; rw [List.filter_append, List.map_append]
theorem nearP_append (G : Nat → Nat) (P P' : List Nat) (r : Nat) : nearP G (P ++ P') r = nearP G P r ++ nearP G P' r := by
  unfold nearP; rw [List.filter_append, List.map_append]
theorem pushP_len (U P : List Nat) (r : Nat) : (pushP U P r).length ≤ P.length := by
  unfold pushP; rw [List.length_map]; exact List.length_filter_le _ _
theorem nearP_len (G : Nat → Nat) (P : List Nat) (r : Nat) : (nearP G P r).length ≤ P.length := by
  unfold nearP; rw [List.length_map]; exact List.length_filter_le _ _
theorem mem_pushP {U P : List Nat} {r q : Nat} : q ∈ pushP U P r ↔ q ^^^ r ∈ P ∧ ¬ q < r ∧ U.getD q 0 = 1 := by
  unfold pushP
  rw [List.mem_map]
  constructor
  · rintro ⟨s, hs, rfl⟩
    rw [List.mem_filter] at hs
    rw [xx_mid]
    simp only [Bool.and_eq_true, Bool.not_eq_true', decide_eq_true_eq, decide_eq_false_iff_not] at hs
    exact ⟨hs.1, hs.2.1, hs.2.2⟩
  · rintro ⟨h1, h2, h3⟩
    have e : r ^^^ (q ^^^ r) = q := by rw [Nat.xor_comm q r, xx_left]
    exact ⟨q ^^^ r, List.mem_filter.mpr ⟨h1, by rw [e]; simp [h2]; exact h3⟩, e⟩
theorem nodup_map_xor {l : List Nat} (r : Nat) (h : l.Nodup) : (l.map fun s => r ^^^ s).Nodup := by
  induction l with
  | nil => exact List.nodup_nil
  | cons x t ih =>
    obtain ⟨hx, ht⟩ := List.nodup_cons.mp h
    rw [List.map_cons]
    refine List.nodup_cons.mpr ⟨fun hm => ?_, ih ht⟩
    obtain ⟨y, hy, e⟩ := List.mem_map.mp hm
    have : y = x := by rw [← xx_left r y, e, xx_left]
    exact hx (this ▸ hy)
theorem pushP_nodup {U P : List Nat} {r : Nat} (h : P.Nodup) : (pushP U P r).Nodup := nodup_map_xor r (h.filter _)
def ptab (f : Nat → Nat) (dn : List Nat) : List (Int × Int) := dn.map fun r : Nat => ((r : Int), (f r : Int))
theorem ptab_has (f : Nat → Nat) (j : Nat) : ∀ dn : List Nat, kdfHas (ptab f dn) (j : Int) = decide (j ∈ dn)
  | [] => by simp [ptab, kdfHas]
  | x :: r => by
    have ih := ptab_has f j r
    unfold kdfHas ptab at ih ⊢
    rw [List.map_cons, List.any_cons, ih]
    by_cases h : x = j
    · subst h; simp
    · have h1 : ¬ j = x := fun e => h e.symm
      have h2 : ¬ (x : Int) = (j : Int) := fun e => h (by omega)
      simp [h1, h2]
theorem ptab_look (f : Nat → Nat) (j : Nat) : ∀ dn : List Nat, j ∈ dn → kdfLook (ptab f dn) (j : Int) 0 = (f j : Int)
  | [], h => nomatch h
  | x :: r, h => by
    unfold kdfLook ptab
    rw [List.map_cons, List.find?_cons]
    by_cases h1 : x = j
    · subst h1; simp
    · have h2 : ¬ (x : Int) = (j : Int) := fun e => h1 (by omega)
      have h3 : j ∈ r := by
        rcases List.mem_cons.mp h with e | e
        · exact absurd e.symm h1
        · exact e
      have ih := ptab_look f j r h3
      unfold kdfLook ptab at ih
      simp only [h2, decide_false]
      exact ih
theorem ptab_put (f : Nat → Nat) (dn : List Nat) (r v : Nat) (hr : r ∉ dn) (h : v = f r) : kdfPut (ptab f dn) (r : Int) (v : Int) = ptab f (dn ++ [r]) := by
  have hh := ptab_has f r dn
  unfold kdfHas at hh
  unfold kdfPut
  rw [if_neg (by rw [hh]; simp [hr]), h]
  unfold ptab
  rw [List.map_append]; rfl
theorem ptab_len (f : Nat → Nat) (dn : List Nat) : (ptab f dn).length = dn.length := List.length_map ..
end Mine
end
section
namespace Mine
def wrd (l : List Nat) : List Nat := l.map fun r => 256 + r
theorem wrd_append (l l' : List Nat) : wrd (l ++ l') = wrd l ++ wrd l' := List.map_append ..
structure InvAt (S : List Nat) (D G : Nat → Nat) (t : Nat) (U Q : List Nat) (cW cR : List (Int × Int)) (g : Nat) (cur nxt dn : List Nat) : Prop where
  hQ : Q = wrd cur ++ 0 :: wrd nxt
  hW : cW = ptab G dn
  hR : cR = ptab D dn
  hdn : dn.Nodup
  hcn : cur.Nodup
  hnn : nxt.Nodup
  hd : ∀ r, r ∈ dn ↔ r < 16 ∧ (D r < g ∨ (D r = g ∧ r ∉ cur))
  hc : ∀ r, r ∈ cur → r < 16 ∧ D r = g
  hx : ∀ r, r ∈ nxt ↔ r < 16 ∧ D r = g + 1 ∧ ∀ s ∈ S, r ^^^ s < r → r ^^^ s ∈ dn
  hl : U.length = 16
  hU : ∀ r, r < 16 → U.getD r 0 = cntOf S dn r
  ht : t = dn.length + g
section
variable {S : List Nat} {D G : Nat → Nat} {t : Nat} {U Q : List Nat} {cW cR : List (Int × Int)} {g : Nat} {cur nxt dn : List Nat}
theorem short_list : ∀ (n : Nat) (l : List Nat), l.Nodup → (∀ r, r ∈ l → r < n) → l.length ≤ n
  | 0, [], _, _ => Nat.le_refl _
  | 0, x :: _, _, h => absurd (h x List.mem_cons_self) (Nat.not_lt_zero x)
  | n + 1, l, hn, h => by
    have := short_list n (l.erase n) (hn.erase n) fun r hr => by
      have h1 := h r (List.mem_of_mem_erase hr)
      have h2 : r ≠ n := fun e => by
        subst e
        exact (List.Nodup.not_mem_erase hn) hr
      omega
    by_cases hm : n ∈ l
    · rw [List.length_erase_of_mem hm] at this; omega
    · rw [List.erase_of_not_mem hm] at this; omega
theorem InvAt.short (I : InvAt S D G t U Q cW cR g cur nxt dn) : Q.length ≤ 33 ∧ dn.length ≤ 16 := by
  have h1 := short_list 16 cur I.hcn fun r hr => (I.hc r hr).1
  have h2 := short_list 16 nxt I.hnn fun r hr => ((I.hx r).mp hr).1
  have h3 := short_list 16 dn I.hdn fun r hr => ((I.hd r).mp hr).1
  refine ⟨?_, h3⟩
  rw [I.hQ]
  unfold wrd
  simp only [List.length_append, List.length_map, List.length_cons]
  omega
theorem inv_init (hD : DepthOf S D) (hl : U.length = 16) (hU : ∀ r, r < 16 → U.getD r 0 = cntOf S [] r) :
    InvAt S D G 0 U (wrd ((List.range 16).filter fun q => decide (cntOf S [] q = 0)) ++ [0]) [] [] 0 ((List.range 16).filter fun q => decide (cntOf S [] q = 0)) [] [] := by
  have hz : ∀ r, cntOf S [] r = 0 ↔ D r = 0 := fun r => by
    rw [cntOf_zero]
    constructor
    · intro h
      by_cases h0 : D r = 0
      · exact h0
      · obtain ⟨s, hs, hlt, _⟩ := hD.ex r h0
        exact absurd (h s hs hlt) (by simp)
    · intro h s hs hlt
      have := hD.lt r s hs hlt
      omega
  refine ⟨rfl, rfl, rfl, List.nodup_nil, List.nodup_range.filter _, List.nodup_nil, fun r => ?_, fun r hr => ?_, fun r => ?_, hl, hU, rfl⟩
  · constructor
    · intro h; exact nomatch h
    · rintro ⟨hr, h | ⟨h1, h2⟩⟩
      · omega
      · exact absurd (List.mem_filter.mpr ⟨List.mem_range.mpr hr, by simpa using (hz r).mpr h1⟩) h2
  · obtain ⟨h1, h2⟩ := List.mem_filter.mp hr
    exact ⟨List.mem_range.mp h1, (hz r).mp (by simpa using h2)⟩
  · constructor
    · intro h; exact nomatch h
    · rintro ⟨_, h1, h2⟩
      obtain ⟨s, hs, hlt, _⟩ := hD.ex r (by omega)
      exact nomatch h2 s hs hlt
theorem inv_mark (hD : DepthOf S D) (I : InvAt S D G t U Q cW cR g [] nxt dn) : Q = 0 :: wrd nxt ∧ InvAt S D G (t + 1) U (wrd nxt ++ [0]) cW cR (g + 1) nxt [] dn := by
  refine ⟨I.hQ, rfl, I.hW, I.hR, I.hdn, I.hnn, List.nodup_nil, fun r => ?_, fun r hr => ⟨((I.hx r).mp hr).1, ((I.hx r).mp hr).2.1⟩, fun r => ?_, I.hl, I.hU, by rw [I.ht]; omega⟩
  · rw [I.hd r]
    constructor
    · rintro ⟨h1, h2 | ⟨h2, _⟩⟩
      · exact ⟨h1, .inl (by omega)⟩
      · exact ⟨h1, .inl (by omega)⟩
    · rintro ⟨h1, h2 | ⟨h2, h3⟩⟩
      · refine ⟨h1, ?_⟩
        by_cases h : D r = g
        · exact .inr ⟨h, by simp⟩
        · exact .inl (by omega)
      · exact absurd ((I.hx r).mpr ⟨h1, h2, fun s hs hlt => (I.hd _).mpr ⟨by omega, by
          have := hD.lt r s hs hlt
          by_cases h : D (r ^^^ s) = g
          · exact .inr ⟨h, by simp⟩
          · exact .inl (by omega)⟩⟩) h3
  · constructor
    · intro h; exact nomatch h
    · rintro ⟨h1, h2, h3⟩
      obtain ⟨s, hs, hlt, he⟩ := hD.ex r (by omega)
      have := (I.hd _).mp (h3 s hs hlt)
      rcases this.2 with h | ⟨h, _⟩ <;> omega
theorem InvAt.fresh {r : Nat} (I : InvAt S D G t U Q cW cR g (r :: cur) nxt dn) : r < 16 ∧ D r = g ∧ r ∉ dn := by
  have h := I.hc r List.mem_cons_self
  refine ⟨h.1, h.2, fun hm => ?_⟩
  rcases ((I.hd r).mp hm).2 with h1 | ⟨_, h1⟩
  · omega
  · exact h1 List.mem_cons_self
theorem InvAt.below {r s : Nat} (hD : DepthOf S D) (I : InvAt S D G t U Q cW cR g (r :: cur) nxt dn) (hs : s ∈ S) (hlt : r ^^^ s < r) : r ^^^ s ∈ dn := by
  have h := I.fresh
  have h2 := hD.lt r s hs hlt
  exact (I.hd _).mpr ⟨by omega, .inl (by omega)⟩
theorem InvAt.above {r s : Nat} (hS : ∀ s ∈ S, 1 ≤ s ∧ s < 16) (I : InvAt S D G t U Q cW cR g (r :: cur) nxt dn) (hs : s ∈ S) (hlt : ¬ r ^^^ s < r) : r < r ^^^ s ∧ r ^^^ s < 16 ∧ 1 ≤ U.getD (r ^^^ s) 0 := by
  have h := I.fresh
  have h1 := xor_ne (r := r) (hS s hs).1
  have h2 := xor_lt16 h.1 (hS s hs).2
  refine ⟨by omega, h2, ?_⟩
  rw [I.hU _ h2]
  have h3 : cntOf S dn (r ^^^ s) ≠ 0 := fun e => by
    have := cntOf_zero.mp e s hs (by rw [xx_right]; omega)
    rw [xx_right] at this
    exact h.2.2 this
  omega
theorem inv_row {r : Nat} {U' : List Nat} (hD : DepthOf S D) (hn : S.Nodup) (I : InvAt S D G t U Q cW cR g (r :: cur) nxt dn) (hl' : U'.length = 16)
    (hU' : ∀ q, q < 16 → U'.getD q 0 = U.getD q 0 - (if r < q ∧ q ^^^ r ∈ S then 1 else 0)) :
    InvAt S D G (t + 1) U' (wrd cur ++ 0 :: wrd nxt ++ wrd (pushP U S r)) (ptab G (dn ++ [r])) (ptab D (dn ++ [r])) g cur (nxt ++ pushP U S r) (dn ++ [r]) := by
  obtain ⟨hr, hg, hrd⟩ := I.fresh
  obtain ⟨hrc, hcn⟩ := List.nodup_cons.mp I.hcn
  have hcnt : ∀ q, q < 16 → U'.getD q 0 = cntOf S (dn ++ [r]) q := fun q hq => by rw [hU' q hq, I.hU q hq, cntOf_add hn hrd]
  refine ⟨by rw [wrd_append, List.append_assoc, List.cons_append], rfl, rfl, ?_, hcn, ?_, fun x => ?_, fun x hx => I.hc x (List.mem_cons_of_mem _ hx), fun x => ?_, hl', hcnt, by rw [I.ht, List.length_append, List.length_cons, List.length_nil]; omega⟩
  · exact List.nodup_append.mpr ⟨I.hdn, List.nodup_cons.mpr ⟨by simp, List.nodup_nil⟩, fun a ha b hb e => by
      rw [List.mem_singleton] at hb; subst hb; subst e; exact hrd ha⟩
  · refine List.nodup_append.mpr ⟨I.hnn, pushP_nodup hn, fun a ha b hb e => ?_⟩
    subst e
    obtain ⟨h1, h2, _⟩ := mem_pushP.mp hb
    have h3 := ((I.hx a).mp ha).2.2 _ h1
    rw [xx_left] at h3
    have h4 : a ≠ r := fun e => by
      have := ((I.hx a).mp ha).2.1
      rw [e, hg] at this
      omega
    exact hrd (h3 (by omega))
  · rw [List.mem_append, List.mem_singleton, I.hd x]
    constructor
    · rintro (⟨h1, h2 | ⟨h2, h3⟩⟩ | rfl)
      · exact ⟨h1, .inl h2⟩
      · exact ⟨h1, .inr ⟨h2, fun h => h3 (List.mem_cons_of_mem _ h)⟩⟩
      · exact ⟨hr, .inr ⟨hg, hrc⟩⟩
    · rintro ⟨h1, h2 | ⟨h2, h3⟩⟩
      · exact .inl ⟨h1, .inl h2⟩
      · by_cases hxr : x = r
        · exact .inr hxr
        · exact .inl ⟨h1, .inr ⟨h2, fun h => by
            rcases List.mem_cons.mp h with e | e
            · exact hxr e
            · exact h3 e⟩⟩
  · rw [List.mem_append]
    constructor
    · rintro (h | h)
      · obtain ⟨h1, h2, h3⟩ := (I.hx x).mp h
        exact ⟨h1, h2, fun s hs hlt => List.mem_append_left _ (h3 s hs hlt)⟩
      · obtain ⟨h1, h2, h3⟩ := mem_pushP.mp h
        have hxr : x ^^^ (x ^^^ r) = r := xx_left x r
        have hx16 : x < 16 := by
          by_cases hx : x < 16
          · exact hx
          · rw [List.getD_eq_getElem?_getD, List.getElem?_eq_none (by rw [I.hl]; omega)] at h3
            simp at h3
        have hne : x ≠ r := fun e => by
          subst e
          rw [I.hU x hx16] at h3
          have h0 : cntOf S dn x = 0 := cntOf_zero.mpr fun s hs hlt => I.below hD hs hlt
          omega
        have hlt : r < x := by omega
        have hz : cntOf S (dn ++ [r]) x = 0 := by
          rw [← hcnt x hx16, hU' x hx16, if_pos ⟨hlt, h1⟩, h3]
        have hall := cntOf_zero.mp hz
        refine ⟨hx16, ?_, hall⟩
        have hd1 := hD.lt x (x ^^^ r) h1 (by rw [hxr]; exact hlt)
        rw [hxr, hg] at hd1
        obtain ⟨s, hs, hlts, he⟩ := hD.ex x (by omega)
        have hm := hall s hs hlts
        rcases List.mem_append.mp hm with hm | hm
        · rcases ((I.hd _).mp hm).2 with h | ⟨h, _⟩ <;> omega
        · rw [List.mem_singleton.mp hm, hg] at he; omega
    · rintro ⟨h1, h2, h3⟩
      by_cases hall : ∀ s ∈ S, x ^^^ s < x → x ^^^ s ∈ dn
      · exact .inl ((I.hx x).mpr ⟨h1, h2, hall⟩)
      · right
        have hex : ∃ s, s ∈ S ∧ x ^^^ s < x ∧ x ^^^ s ∉ dn := by
          apply Classical.byContradiction
          intro hno
          exact hall fun s hs hlt => Classical.byContradiction fun hm => hno ⟨s, hs, hlt, hm⟩
        obtain ⟨s, hs, hlt, hm⟩ := hex
        have hr' : x ^^^ s = r := by
          rcases List.mem_append.mp (h3 s hs hlt) with h | h
          · exact absurd h hm
          · exact List.mem_singleton.mp h
        have hs' : x ^^^ r = s := by rw [← hr', xx_left]
        refine mem_pushP.mpr ⟨by rw [hs']; exact hs, by rw [← hr']; omega, ?_⟩
        have hz : cntOf S (dn ++ [r]) x = 0 := cntOf_zero.mpr h3
        rw [← hcnt x h1, hU' x h1, if_pos ⟨by rw [← hr']; exact hlt, by rw [hs']; exact hs⟩] at hz
        have hpos : cntOf S dn x ≠ 0 := fun e => hm (cntOf_zero.mp e s hs hlt)
        rw [← I.hU x h1] at hpos
        omega
theorem inv_all (hD : DepthOf S D) (I : InvAt S D G 31 U Q cW cR g cur nxt dn) : ∀ r, r < 16 → r ∈ dn := by
  intro r hr
  apply Classical.byContradiction
  intro hm
  have hle := hD.le r
  have hg : g ≤ D r := by
    apply Classical.byContradiction
    intro h
    exact hm ((I.hd r).mpr ⟨hr, .inl (by omega)⟩)
  have h1 : (r :: dn).length ≤ 16 := short_list 16 (r :: dn) (List.nodup_cons.mpr ⟨hm, I.hdn⟩) fun q hq => by
    rcases List.mem_cons.mp hq with e | e
    · omega
    · exact ((I.hd q).mp e).1
  have := I.ht
  rw [List.length_cons] at h1
  omega
end
end Mine
end
section
namespace Mine
theorem up_set (U : List Nat) (i v : Nat) : up (U.set i v) = (up U).set i (v : Int) := by unfold up; rw [List.map_set]
theorem getD_set {U : List Nat} {i v j : Nat} (h : i < U.length) : (U.set i v).getD j 0 = if j = i then v else U.getD j 0 := by
  rw [List.getD_eq_getElem?_getD, List.getD_eq_getElem?_getD, List.getElem?_set]
  by_cases e : i = j
  · subst e; simp [h]
  · have e' : ¬ j = i := fun q => e q.symm
    simp [e, e']
theorem ints_set_up {vs : List Value} {U : List Nat} {i v : Nat} {x : Int} {t : Tok} (h : IntsAre vs (up U)) (e : x = (v : Int)) : IntsAre (vs.set i (.int x t)) (up (U.set i v)) := by
  rw [up_set, e]; exact ints_set h i
theorem getD_set_int {ns : List Int} {i : Nat} {x : Int} (h : i < ns.length) : (ns.set i x).getD i 0 = x := by
  rw [List.getD_eq_getElem?_getD, List.getElem?_set]; simp [h]
theorem ints_cons {vs : List Value} {q : Int} {ns : List Int} (h : IntsAre vs (q :: ns)) : ∃ t vs', vs = Value.int q t :: vs' ∧ IntsAre vs' ns := by
  cases h with
  | cons n t h => exact ⟨t, _, rfl, h⟩
theorem turnU_low {U2 U4 P : List Nat} {r sv : Nat} (h : ∀ q, q < 16 → U4.getD q 0 = U2.getD q 0 - (if r < q ∧ q ^^^ r ∈ P then 1 else 0)) (hlt : r ^^^ sv < r) :
    ∀ q, q < 16 → U4.getD q 0 = U2.getD q 0 - (if r < q ∧ q ^^^ r ∈ P ++ [sv] then 1 else 0) := fun q hq => by
  rw [h q hq]
  have e : (r < q ∧ q ^^^ r ∈ P ++ [sv]) ↔ (r < q ∧ q ^^^ r ∈ P) := by
    rw [List.mem_append, List.mem_singleton]
    constructor
    · rintro ⟨h1, h2 | h2⟩
      · exact ⟨h1, h2⟩
      · have : q = r ^^^ sv := by rw [← h2, Nat.xor_comm q r, xx_left]
        omega
    · rintro ⟨h1, h2⟩; exact ⟨h1, .inl h2⟩
  simp only [e]
theorem turnU_high {U2 U4 P : List Nat} {r sv : Nat} (h : ∀ q, q < 16 → U4.getD q 0 = U2.getD q 0 - (if r < q ∧ q ^^^ r ∈ P then 1 else 0)) (hl : U4.length = 16) (hq : r ^^^ sv < 16) (hgt : r < r ^^^ sv) (hs : sv ∉ P) :
    U4.getD (r ^^^ sv) 0 = U2.getD (r ^^^ sv) 0 ∧ ∀ q, q < 16 → (U4.set (r ^^^ sv) (U2.getD (r ^^^ sv) 0 - 1)).getD q 0 = U2.getD q 0 - (if r < q ∧ q ^^^ r ∈ P ++ [sv] then 1 else 0) := by
  refine ⟨by rw [h _ hq, if_neg (by rw [xx_mid]; exact fun x => hs x.2)]; rfl, fun q hq' => ?_⟩
  rw [getD_set (by omega)]
  by_cases e : q = r ^^^ sv
  · subst e
    rw [if_pos rfl, if_pos ⟨hgt, by rw [xx_mid]; simp⟩]
  · rw [if_neg e, h q hq']
    have e2 : (r < q ∧ q ^^^ r ∈ P ++ [sv]) ↔ (r < q ∧ q ^^^ r ∈ P) := by
      rw [List.mem_append, List.mem_singleton]
      constructor
      · rintro ⟨h1, h2 | h2⟩
        · exact ⟨h1, h2⟩
        · exact absurd (by rw [← h2, Nat.xor_comm q r, xx_left]) e
      · rintro ⟨h1, h2⟩; exact ⟨h1, .inl h2⟩
    simp only [e2]
theorem pushP_one (U : List Nat) (s r : Nat) : pushP U [s] r = if ¬ r ^^^ s < r ∧ U.getD (r ^^^ s) 0 = 1 then [r ^^^ s] else [] := by
  unfold pushP
  by_cases h : ¬ r ^^^ s < r ∧ U.getD (r ^^^ s) 0 = 1
  · rw [if_pos h, List.filter_cons_of_pos (by simp [h.1]; exact h.2)]; rfl
  · rw [if_neg h, List.filter_cons_of_neg (by simp; intro h1 h2; exact h ⟨by omega, h2⟩)]; rfl
theorem nearP_one (G : Nat → Nat) (s r : Nat) : nearP G [s] r = if r ^^^ s < r then [G (r ^^^ s)] else [] := by
  unfold nearP
  by_cases h : r ^^^ s < r
  · rw [if_pos h, List.filter_cons_of_pos (by simp [h])]; rfl
  · rw [if_neg h, List.filter_cons_of_neg (by simp; omega)]; rfl
end Mine
end
section
namespace Mine
/-- the addresses that turn lie apart, and off the rest of the ledger -/
def Apart (as : List Addr) (rest : List (Addr × Obj)) : Prop := as.Pairwise (fun a b => a ≠ b) ∧ ∀ a ∈ as, ∀ p ∈ rest, p.1 ≠ a
section
variable {a b c d e : Addr} {o o' oa ob oc od oe : Obj} {as as' : List Addr} {rest own : List (Addr × Obj)}
theorem Apart.offR (h : Apart as rest) (m : a ∈ as) : ∀ p ∈ rest, p.1 ≠ a := h.2 a m
theorem Apart.more (h : Apart as rest) (k : OwnOff own as') (s : ∀ a ∈ as, a ∈ as') : Apart as (rest ++ own) :=
  ⟨h.1, fun a ha p hp => by
    rcases List.mem_append.mp hp with hp | hp
    · exact h.2 a ha p hp
    · exact k p hp a (s a ha)⟩
theorem Apart.cons (h : Apart as rest) (h1 : ∀ b ∈ as, a ≠ b) (h2 : ∀ p ∈ rest, p.1 ≠ a) : Apart (a :: as) rest :=
  ⟨List.pairwise_cons.mpr ⟨h1, h.1⟩, fun x hx p hp => by
    rcases List.mem_cons.mp hx with rfl | hx
    · exact h2 p hp
    · exact h.2 x hx p hp⟩
theorem Apart.tail (h : Apart (a :: as) rest) : Apart as rest := ⟨(List.pairwise_cons.mp h.1).2, fun x hx => h.2 x (List.mem_cons_of_mem _ hx)⟩
theorem Apart.head (h : Apart (a :: as) rest) : ∀ x ∈ as, a ≠ x := (List.pairwise_cons.mp h.1).1
theorem off_cons {r : List (Addr × Obj)} (h : b ≠ a) (hr : ∀ p ∈ r, p.1 ≠ a) : ∀ p ∈ (b, ob) :: r, p.1 ≠ a := fun p hp => by
  rcases List.mem_cons.mp hp with rfl | hp
  · exact h
  · exact hr p hp
theorem ap2_0 (h : Apart [a, b] rest) : Upd a o o' ((a, o) :: (b, ob) :: rest) ((a, o') :: (b, ob) :: rest) :=
  .head (off_cons (h.head b (by simp)).symm (h.offR (by simp)))
theorem ap2_1 (h : Apart [a, b] rest) : Upd b o o' ((a, oa) :: (b, o) :: rest) ((a, oa) :: (b, o') :: rest) :=
  .tail (h.head b (by simp)) (.head (h.offR (by simp)))
theorem ap4_0 (h : Apart [a, b, c, d] rest) : Upd a o o' ((a, o) :: (b, ob) :: (c, oc) :: (d, od) :: rest) ((a, o') :: (b, ob) :: (c, oc) :: (d, od) :: rest) :=
  .head (off_cons (h.head b (by simp)).symm (off_cons (h.head c (by simp)).symm (off_cons (h.head d (by simp)).symm (h.offR (by simp)))))
theorem ap4_1 (h : Apart [a, b, c, d] rest) : Upd b o o' ((a, oa) :: (b, o) :: (c, oc) :: (d, od) :: rest) ((a, oa) :: (b, o') :: (c, oc) :: (d, od) :: rest) :=
  .tail (h.head b (by simp)) (.head (off_cons (h.tail.head c (by simp)).symm (off_cons (h.tail.head d (by simp)).symm (h.offR (by simp)))))
theorem ap4_2 (h : Apart [a, b, c, d] rest) : Upd c o o' ((a, oa) :: (b, ob) :: (c, o) :: (d, od) :: rest) ((a, oa) :: (b, ob) :: (c, o') :: (d, od) :: rest) :=
  .tail (h.head c (by simp)) (.tail (h.tail.head c (by simp)) (.head (off_cons (h.tail.tail.head d (by simp)).symm (h.offR (by simp)))))
theorem ap4_3 (h : Apart [a, b, c, d] rest) : Upd d o o' ((a, oa) :: (b, ob) :: (c, oc) :: (d, o) :: rest) ((a, oa) :: (b, ob) :: (c, oc) :: (d, o') :: rest) :=
  .tail (h.head d (by simp)) (.tail (h.tail.head d (by simp)) (.tail (h.tail.tail.head d (by simp)) (.head (h.offR (by simp)))))
theorem ap5_0 (h : Apart [a, b, c, d, e] rest) : Upd a o o' ((a, o) :: (b, ob) :: (c, oc) :: (d, od) :: (e, oe) :: rest) ((a, o') :: (b, ob) :: (c, oc) :: (d, od) :: (e, oe) :: rest) :=
  .head (off_cons (h.head b (by simp)).symm (off_cons (h.head c (by simp)).symm (off_cons (h.head d (by simp)).symm (off_cons (h.head e (by simp)).symm (h.offR (by simp))))))
theorem ap5_1 (h : Apart [a, b, c, d, e] rest) : Upd b o o' ((a, oa) :: (b, o) :: (c, oc) :: (d, od) :: (e, oe) :: rest) ((a, oa) :: (b, o') :: (c, oc) :: (d, od) :: (e, oe) :: rest) :=
  .tail (h.head b (by simp)) (ap4_0 h.tail)
theorem ap5_2 (h : Apart [a, b, c, d, e] rest) : Upd c o o' ((a, oa) :: (b, ob) :: (c, o) :: (d, od) :: (e, oe) :: rest) ((a, oa) :: (b, ob) :: (c, o') :: (d, od) :: (e, oe) :: rest) :=
  .tail (h.head c (by simp)) (ap4_1 h.tail)
theorem ap5_3 (h : Apart [a, b, c, d, e] rest) : Upd d o o' ((a, oa) :: (b, ob) :: (c, oc) :: (d, o) :: (e, oe) :: rest) ((a, oa) :: (b, ob) :: (c, oc) :: (d, o') :: (e, oe) :: rest) :=
  .tail (h.head d (by simp)) (ap4_2 h.tail)
theorem ap5_4 (h : Apart [a, b, c, d, e] rest) : Upd e o o' ((a, oa) :: (b, ob) :: (c, oc) :: (d, od) :: (e, o) :: rest) ((a, oa) :: (b, ob) :: (c, oc) :: (d, od) :: (e, o') :: rest) :=
  .tail (h.head e (by simp)) (ap4_3 h.tail)
-- the same, the object open
theorem apF4_0 (h : Apart [a, b, c, d] rest) : UpdF a o ((a, o) :: (b, ob) :: (c, oc) :: (d, od) :: rest) (fun o' => (a, o') :: (b, ob) :: (c, oc) :: (d, od) :: rest) :=
  .head (off_cons (h.head b (by simp)).symm (off_cons (h.head c (by simp)).symm (off_cons (h.head d (by simp)).symm (h.offR (by simp)))))
theorem apF4_1 (h : Apart [a, b, c, d] rest) : UpdF b o ((a, oa) :: (b, o) :: (c, oc) :: (d, od) :: rest) (fun o' => (a, oa) :: (b, o') :: (c, oc) :: (d, od) :: rest) :=
  .tail (h.head b (by simp)) (.head (off_cons (h.tail.head c (by simp)).symm (off_cons (h.tail.head d (by simp)).symm (h.offR (by simp)))))
theorem apF5_1 (h : Apart [a, b, c, d, e] rest) : UpdF b o ((a, oa) :: (b, o) :: (c, oc) :: (d, od) :: (e, oe) :: rest) (fun o' => (a, oa) :: (b, o') :: (c, oc) :: (d, od) :: (e, oe) :: rest) :=
  .tail (h.head b (by simp)) (apF4_0 h.tail)
theorem apF5_2 (h : Apart [a, b, c, d, e] rest) : UpdF c o ((a, oa) :: (b, ob) :: (c, o) :: (d, od) :: (e, oe) :: rest) (fun o' => (a, oa) :: (b, ob) :: (c, o') :: (d, od) :: (e, oe) :: rest) :=
  .tail (h.head c (by simp)) (apF4_1 h.tail)
end
end Mine
end
section
namespace Mine
/-! the plain law: the xor of the coins' worths is the mex of the row's moves -/
theorem lt_xor_cases (n : Nat) : ∀ a b c : Nat, b ≤ n → c ≤ n → a < b ^^^ c → a ^^^ c < b ∨ a ^^^ b < c := by
  induction n using Nat.strongRecOn with
  | ind n ih =>
    intro a b c hb hc h
    by_cases h0 : n = 0
    · subst h0
      obtain rfl : b = 0 := by omega
      obtain rfl : c = 0 := by omega
      simp at h
    · have e1 : (b ^^^ c) / 2 = b / 2 ^^^ c / 2 := Nat.xor_div_two
      have e2 : (a ^^^ c) / 2 = a / 2 ^^^ c / 2 := Nat.xor_div_two
      have e3 : (a ^^^ b) / 2 = a / 2 ^^^ b / 2 := Nat.xor_div_two
      have m1 : (b ^^^ c) % 2 = (b % 2) ^^^ (c % 2) := Nat.xor_mod_two_pow (n := 1)
      have m2 : (a ^^^ c) % 2 = (a % 2) ^^^ (c % 2) := Nat.xor_mod_two_pow (n := 1)
      have m3 : (a ^^^ b) % 2 = (a % 2) ^^^ (b % 2) := Nat.xor_mod_two_pow (n := 1)
      by_cases hlt : a / 2 < b / 2 ^^^ c / 2
      · rcases ih (n / 2) (by omega) (a / 2) (b / 2) (c / 2) (by omega) (by omega) hlt with h1 | h1
        · left; rw [← e2] at h1; omega
        · right; rw [← e3] at h1; omega
      · have heq : a / 2 = b / 2 ^^^ c / 2 := by rw [← e1] at hlt ⊢; omega
        have q2 : a / 2 ^^^ c / 2 = b / 2 := by rw [heq, Nat.xor_assoc, Nat.xor_self, Nat.xor_zero]
        have q3 : a / 2 ^^^ b / 2 = c / 2 := by rw [heq, Nat.xor_comm, ← Nat.xor_assoc, Nat.xor_self, Nat.zero_xor]
        rw [q2] at e2
        rw [q3] at e3
        rw [← heq] at e1
        have ha : a % 2 = 0 ∨ a % 2 = 1 := by omega
        have hb' : b % 2 = 0 ∨ b % 2 = 1 := by omega
        have hc' : c % 2 = 0 ∨ c % 2 = 1 := by omega
        rcases ha with ha | ha <;> rcases hb' with hb' | hb' <;> rcases hc' with hc' | hc' <;> rw [hb', hc'] at m1 <;> rw [ha, hc'] at m2 <;> rw [ha, hb'] at m3 <;> simp only [Nat.reduceXor] at m1 m2 m3 <;> omega
theorem xorTo_congr {cs cs' : List Nat} {s : Nat} : ∀ t, (∀ k, k < t → cs.getD k 0 = cs'.getD k 0) → xorTo cs s t = xorTo cs' s t
  | 0, _ => rfl
  | t + 1, h => by
    rw [xorTo_succ, xorTo_succ, xorTo_congr t fun k hk => h k (Nat.lt_succ_of_lt hk)]
    unfold xstep
    rw [h t (Nat.lt_succ_self t)]
theorem xorTo_xor (cs : List Nat) (r s : Nat) : ∀ t, xorTo cs (r ^^^ s) t = xorTo cs r t ^^^ xorTo cs s t
  | 0 => by show (0 : Nat) = 0 ^^^ 0; rfl
  | t + 1 => by
    rw [xorTo_succ, xorTo_succ, xorTo_succ, xorTo_xor cs r s t]
    unfold xstep
    rw [Nat.testBit_xor]
    generalize xorTo cs r t = x
    generalize xorTo cs s t = y
    generalize cs.getD t 0 = c
    cases r.testBit t <;> cases s.testBit t
    · rfl
    · show x ^^^ y ^^^ c = x ^^^ (y ^^^ c); rw [Nat.xor_assoc]
    · show x ^^^ y ^^^ c = x ^^^ c ^^^ y; rw [Nat.xor_assoc, Nat.xor_comm y c, ← Nat.xor_assoc]
    · show x ^^^ y = x ^^^ c ^^^ (y ^^^ c)
      rw [Nat.xor_comm y c, Nat.xor_assoc x c, ← Nat.xor_assoc c c y, Nat.xor_self, Nat.zero_xor]
theorem coinsTo_getD (S : List Nat) (j : Nat) : ∀ n, j < n → (coinsTo S n).getD j 0 = mex (nearC (coinsTo S j) j S)
  | 0, h => absurd h (Nat.not_lt_zero j)
  | n + 1, h => by
    rw [show coinsTo S (n + 1) = coinsTo S n ++ [mex (nearC (coinsTo S n) n S)] from rfl, List.getD_eq_getElem?_getD, List.getElem?_append]
    by_cases h1 : j < n
    · rw [if_pos (by rw [coinsTo_len]; exact h1), ← List.getD_eq_getElem?_getD]
      exact coinsTo_getD S j n h1
    · have h2 : j = n := by omega
      subst h2
      rw [if_neg (by rw [coinsTo_len]; exact h1), coinsTo_len]
      simp
theorem xorTo_coins (S : List Nat) (s t : Nat) (h : t ≤ 4) : xorTo (coinsTo S t) s t = xorTo (coinsTo S 4) s t :=
  xorTo_congr t fun k hk => by rw [coinsTo_getD S k t hk, coinsTo_getD S k 4 (by omega)]
theorem top_bits : ∀ s : Fin 16, ∀ t : Fin 4, s.val >>> t.val = 1 → s.val.testBit t.val = true ∧ ∀ k : Fin 4, t < k → s.val.testBit k.val = false := by decide +kernel
theorem top_lt : ∀ s : Fin 16, ∀ t : Fin 4, s.val >>> t.val = 1 → ∀ r : Fin 16, (r.val ^^^ s.val < r.val ↔ r.val.testBit t.val = true) := by decide +kernel
theorem top_ex : ∀ s : Fin 16, 1 ≤ s.val → ∃ t : Fin 4, s.val >>> t.val = 1 := by decide +kernel
theorem xorTo_stop {cs : List Nat} {s : Nat} : ∀ {u t : Nat}, t ≤ u → (∀ k, t ≤ k → k < u → s.testBit k = false) → xorTo cs s u = xorTo cs s t
  | 0, t, h, _ => by
    have : t = 0 := by omega
    rw [this]
  | u + 1, t, h, hk => by
    by_cases e : t = u + 1
    · rw [e]
    · rw [xorTo_succ]
      unfold xstep
      rw [hk u (by omega) (by omega)]
      exact xorTo_stop (by omega) fun k h1 h2 => hk k h1 (by omega)
theorem xorTo_top {cs : List Nat} {s t : Nat} (hs : s < 16) (ht : t < 4) (h : s >>> t = 1) : xorTo cs s 4 = xorTo cs s t ^^^ cs.getD t 0 := by
  obtain ⟨h1, h2⟩ := top_bits ⟨s, hs⟩ ⟨t, ht⟩ h
  rw [xorTo_stop (u := 4) (t := t + 1) (by omega) fun k hk hk4 => h2 ⟨k, hk4⟩ (Nat.lt_of_succ_le hk), xorTo_succ]
  unfold xstep
  rw [show s.testBit t = true from h1]
  rfl
theorem xorTo_less (cs : List Nat) (r : Nat) : ∀ t v, v < xorTo cs r t → ∃ k, k < t ∧ r.testBit k = true ∧ cs.getD k 0 ^^^ (v ^^^ xorTo cs r t) < cs.getD k 0
  | 0, v, h => absurd h (Nat.not_lt_zero v)
  | t + 1, v, h => by
    rw [xorTo_succ] at h ⊢
    unfold xstep at h ⊢
    cases hb : r.testBit t with
    | false =>
      rw [hb] at h
      obtain ⟨k, h1, h2, h3⟩ := xorTo_less cs r t v h
      exact ⟨k, by omega, h2, h3⟩
    | true =>
      rw [hb] at h
      simp only [if_true] at h ⊢
      rcases lt_xor_cases (max (xorTo cs r t) (cs.getD t 0)) _ _ _ (Nat.le_max_left _ _) (Nat.le_max_right _ _) h with c | c
      · obtain ⟨k, h1, h2, h3⟩ := xorTo_less cs r t _ c
        refine ⟨k, by omega, h2, ?_⟩
        rw [Nat.xor_comm (xorTo cs r t), ← Nat.xor_assoc v]
        exact h3
      · refine ⟨t, by omega, hb, ?_⟩
        have e : cs.getD t 0 ^^^ (v ^^^ (xorTo cs r t ^^^ cs.getD t 0)) = v ^^^ xorTo cs r t := by
          rw [← Nat.xor_assoc v, Nat.xor_comm (v ^^^ _), xx_left]
        rw [e]; exact c
theorem worth_mex {S : List Nat} (hS : ∀ s ∈ S, 1 ≤ s ∧ s < 16) {r : Nat} (hr : r < 16) : mex (nearP (fun r => xorTo (coinsTo S 4) r 4) S r) = xorTo (coinsTo S 4) r 4 := by
  refine isMex_unique (fun _ => Iff.rfl) (mex_is _) ⟨fun hm => ?_, fun v hv => ?_⟩
  · unfold nearP at hm
    obtain ⟨s, hs, e⟩ := List.mem_map.mp hm
    obtain ⟨hs1, hs2⟩ := List.mem_filter.mp hs
    obtain ⟨⟨t, ht⟩, hst⟩ := top_ex ⟨s, (hS s hs1).2⟩ (hS s hs1).1
    dsimp only at e hst
    rw [xorTo_xor, xorTo_top (hS s hs1).2 ht hst] at e
    have e2 : xorTo (coinsTo S 4) s t ^^^ (coinsTo S 4).getD t 0 = 0 := by
      have := congrArg (xorTo (coinsTo S 4) r 4 ^^^ ·) e
      simpa [xx_left] using this
    have e3 : (coinsTo S 4).getD t 0 = xorTo (coinsTo S 4) s t := by
      have := congrArg (xorTo (coinsTo S 4) s t ^^^ ·) e2
      simpa [xx_left] using this
    rw [coinsTo_getD S t 4 ht] at e3
    refine (mex_is (nearC (coinsTo S t) t S)).1 ?_
    rw [e3]
    unfold nearC
    exact List.mem_map.mpr ⟨s, List.mem_filter.mpr ⟨hs1, by simpa using hst⟩, xorTo_coins S s t (by omega)⟩
  · obtain ⟨k, hk, hb, hlt⟩ := xorTo_less _ _ _ _ hv
    rw [coinsTo_getD S k 4 hk] at hlt
    have hm := (mex_is (nearC (coinsTo S k) k S)).2 _ hlt
    unfold nearC at hm
    obtain ⟨s, hs, e⟩ := List.mem_map.mp hm
    obtain ⟨hs1, hs2⟩ := List.mem_filter.mp hs
    have hst : s >>> k = 1 := by simpa using hs2
    unfold nearP
    refine List.mem_map.mpr ⟨s, List.mem_filter.mpr ⟨hs1, decide_eq_true ((top_lt ⟨s, (hS s hs1).2⟩ ⟨k, hk⟩ hst ⟨r, hr⟩).mpr hb)⟩, ?_⟩
    dsimp only
    rw [xorTo_xor, xorTo_top (hS s hs1).2 hk hst, coinsTo_getD S k 4 hk, ← xorTo_coins S s k (by omega), e]
    unfold nearC
    generalize mex _ = c
    generalize xorTo (coinsTo S 4) r 4 = g
    rw [xx_mid, Nat.xor_comm v g, xx_left]
theorem fold_le (R : List Nat) (row : Nat) : ∀ (S : List Nat) (a : Nat), a ≤ S.foldl (dstep R row) a
  | [], _ => Nat.le_refl _
  | s :: S, a => by
    refine Nat.le_trans ?_ (fold_le R row S _)
    unfold dstep; split <;> omega
theorem fold_has (R : List Nat) (row : Nat) : ∀ (S : List Nat) (a s : Nat), s ∈ S → row ^^^ s < row → R.getD (row ^^^ s) 0 < S.foldl (dstep R row) a
  | [], _, _, h, _ => nomatch h
  | x :: S, a, s, h, hlt => by
    rcases List.mem_cons.mp h with rfl | h
    · refine Nat.lt_of_lt_of_le ?_ (fold_le R row S _)
      unfold dstep; rw [if_pos hlt]; omega
    · exact fold_has R row S _ s h hlt
theorem fold_ex (R : List Nat) (row : Nat) : ∀ (S : List Nat) (a : Nat), S.foldl (dstep R row) a = a ∨ ∃ s, s ∈ S ∧ row ^^^ s < row ∧ R.getD (row ^^^ s) 0 + 1 = S.foldl (dstep R row) a
  | [], _ => .inl rfl
  | x :: S, a => by
    rw [List.foldl_cons]
    rcases fold_ex R row S (dstep R row a x) with h | ⟨s, h1, h2, h3⟩
    · rw [h]
      unfold dstep
      split
      · rename_i hlt
        by_cases hc : 1 + R.getD (row ^^^ x) 0 ≤ a
        · left; omega
        · right; exact ⟨x, List.mem_cons_self, hlt, by omega⟩
      · left; rfl
    · exact .inr ⟨s, List.mem_cons_of_mem _ h1, h2, h3⟩
theorem depth_of (S : List Nat) : DepthOf S (deepAt S) where
  lt r s hs hlt := by
    have h := fold_has (deepTo S r) r S 0 s hs hlt
    rw [deepTo_getD S _ r hlt] at h
    exact h
  ex r h0 := by
    rcases fold_ex (deepTo S r) r S 0 with h | ⟨s, h1, h2, h3⟩
    · exact absurd h h0
    · rw [deepTo_getD S _ r h2] at h3
      exact ⟨s, h1, h2, h3⟩
end Mine
end
section
open PySem PySem.W PyProof.Rows PySem.Spec
namespace Mine
section
variable {prog : Program} {w : World} {A : Around} {s : Shared} {env : Env} {h₀ : Heap}
/-- a for over a list of the ledger whose target is a cell -/
theorem forLoop_cell {R : Result → Shared → Prop} {x : Str} {px : Pos} {body : List Stmt} {I : Addr} {fp wr : List Addr} {n : Nat} {P : Nat → Value → Prop} {St : Nat → Heap → Prop} {m : Str → Option Value} {c : Addr}
    {news : List (Addr × Obj)} (W : Walks prog w A I fp wr n P St) (hk : env.scope.kind = .function) (hx : env.kindOf x = some .cell) (hc : env.cells.lookup x = some c)
    (hLf : env.locals ∉ fp) (hcf : c ∉ fp) (hwr : ∀ b ∈ wr, h₀.get? b = none) (hnw : ∀ p ∈ news, p.1 ∉ wr)
    (hst : St 0 s.heap) (F : Fr h₀ env.locals s.heap m) (N : News h₀ env.locals s.heap news)
    (J : Nat → (Str → Option Value) → List (Addr × Obj) → Prop) (h0 : J 0 m news)
    (hJc : ∀ i m' nx, J i m' nx → ∃ o v₀ r, nx = (c, o) :: r ∧ o.data = .cell v₀ ∧ ∀ p ∈ r, p.1 ≠ c)
    (step : ∀ i v m₁ o' r o s₁, (∃ h tk, s₁ = { s with heap := h, toks := tk }) → i < n → P i v → J i m₁ ((c, o) :: r) → o'.data = .cell (some v) → (∀ p ∈ (c, o) :: r, p.1 ∉ wr) → St (i + 1) s₁.heap →
      Fr h₀ env.locals s₁.heap m₁ → News h₀ env.locals s₁.heap (ownOf h₀ fp s₁.heap ++ (c, o') :: r) →
      wpAny (model prog w) A (execs body env) (LoopStepV h₀ env.locals wr (ownOf h₀ fp s₁.heap) (J (i + 1)) s₁ (fun v s' => R (.ok (.ret v)) s') fun s' => R (.ok .next) s') (notedBy (model prog w) A env fun e s' => R (.error e) s') s₁)
    (hR : ∀ h' tk m' news', Fr h₀ env.locals h' m' → News h₀ env.locals h' news' → (∀ p ∈ news', p.1 ∉ wr) → J n m' news' → R (.ok .next) { s with heap := h', toks := tk }) :
    codeAny (model prog w) A (.forLoop (.Name x px) (.ref I) body [] env) R s := by
  have hLw : env.locals ∉ wr := fun h => hLf (W.sub _ h)
  have old : ∀ b o, h₀.get? b = some o → b ∉ wr := fun b o e hb => by rw [hwr b hb] at e; cases e
  refine codeAny_forLoop
    (fun k s' => ∃ h' tk m' news' i, s' = { s with heap := h', toks := tk } ∧ St i h' ∧ Fr h₀ env.locals h' m' ∧ News h₀ env.locals h' news' ∧ (∀ p ∈ news', p.1 ∉ wr) ∧ J i m' news' ∧ i ≤ n ∧ k = n + 1 - i) ?_ (n + 1)
    ⟨s.heap, s.toks, m, news, 0, rfl, hst, F, N, hnw, h0, Nat.zero_le _, rfl⟩
  rintro k s' ⟨h', tk, m', news', i, rfl, hst', F', N', hnw', hJ, hi, rfl⟩
  have next : ∀ h₁ : Heap, (∀ b o, b ∉ wr → h'.get? b = some o → h₁.get? b = some o) → Fr h₀ env.locals h₁ m' ∧ News h₀ env.locals h₁ news' := fun h₁ hk₁ =>
    ⟨⟨F'.ns.at' fun o e => hk₁ _ o hLw e, fun b o e => hk₁ b o (old b o e) (F'.keep b o e), F'.above⟩, fun p hp => ⟨hk₁ _ _ (hnw' p hp) (N' p hp).1, (N' p hp).2⟩⟩
  by_cases hlt : i < n
  · refine W.item i _ _ _ hlt hst' fun v h₁ tk₁ hP hst₁ hk₁ => ?_
    obtain ⟨F₁, N₁⟩ := next h₁ hk₁
    obtain ⟨o, v₀, r, rfl, hd, hr⟩ := hJc i m' news' hJ
    have hmem := N₁ (c, o) (.head _)
    refine wpAny_assign_Name (wpAny_storeName_cell hk hx hc ⟨o, hmem.1, hd⟩ fun h₂ hv₂ hs₂ => ?_)
    obtain ⟨o', ho', hd'⟩ := hv₂
    have F₂ : Fr h₀ env.locals h₂ m' := ⟨F₁.ns.sameBut hs₂ (Ne.symm hmem.2.1), fun b ob e => (hs₂.2 b (fun q => by rw [q, hmem.2.2] at e; cases e)).trans (F₁.keep b ob e), F₁.above⟩
    have N₂ : News h₀ env.locals h₂ ((c, o') :: r) := fun p hp => by
      rcases List.mem_cons.mp hp with rfl | hp
      · exact ⟨ho', hmem.2⟩
      · have z := N₁ p (.tail _ hp)
        exact ⟨(hs₂.2 _ (hr p hp)).trans z.1, z.2⟩
    have Nown : News h₀ env.locals h₂ (ownOf h₀ fp h₂) := news_ownOf hLf
    have hst₂ : St (i + 1) h₂ := W.frame _ _ _ hst₁ fun b hb o e => (hs₂.2 b fun q => hcf (q ▸ hb)).trans e
    refine wpAny_mono (step i v m' o' r o { s with heap := h₂, toks := tk₁ } ⟨_, _, rfl⟩ hlt hP hJ hd' hnw' hst₂ F₂ (Nown.append N₂)) (fun f s₃ h₃ => ?_) fun _ _ e => e
    cases f with
    | ret v => exact h₃
    | brk => exact h₃
    | cont =>
      obtain ⟨_, h₃', tk₃, m₂, news₂, rfl, F₃, N₃, ha₃, hJ₃⟩ := h₃
      refine ⟨n + 1 - (i + 1), by omega, h₃', tk₃, m₂, news₂, i + 1, rfl, ?_, F₃, N₃.right, ha₃, hJ₃, hlt, rfl⟩
      refine W.frame _ _ _ hst₁ fun b hb o e => ?_
      have e₂ : h₂.get? b = some o := (hs₂.2 b fun q => hcf (q ▸ hb)).trans e
      cases hn : h₀.get? b with
      | some o₀ =>
        have : o₀ = o := by have := F₂.keep b o₀ hn; rw [e₂] at this; exact (Option.some.inj this).symm
        exact this ▸ F₃.keep b o₀ hn
      | none => exact (N₃ _ (List.mem_append_left _ (mem_ownOf hb hn e₂))).1
    | next =>
      obtain ⟨_, h₃', tk₃, m₂, news₂, rfl, F₃, N₃, ha₃, hJ₃⟩ := h₃
      refine ⟨n + 1 - (i + 1), by omega, h₃', tk₃, m₂, news₂, i + 1, rfl, ?_, F₃, N₃.right, ha₃, hJ₃, hlt, rfl⟩
      refine W.frame _ _ _ hst₁ fun b hb o e => ?_
      have e₂ : h₂.get? b = some o := (hs₂.2 b fun q => hcf (q ▸ hb)).trans e
      cases hn : h₀.get? b with
      | some o₀ =>
        have : o₀ = o := by have := F₂.keep b o₀ hn; rw [e₂] at this; exact (Option.some.inj this).symm
        exact this ▸ F₃.keep b o₀ hn
      | none => exact (N₃ _ (List.mem_append_left _ (mem_ownOf hb hn e₂))).1
  · have hin : i = n := by omega
    subst hin
    refine W.done _ _ _ hst' fun h₁ tk₁ hk₁ => wpAny_execs_nil ?_
    obtain ⟨F₁, N₁⟩ := next h₁ hk₁
    exact hR h₁ tk₁ m' news' F₁ N₁ hnw' hJ
end
end Mine
end
section
open PySem PySem.W PyProof.Rows PySem.Spec
namespace Mine
section
variable {prog : Program} {w : World} {A : Around} {s : Shared} {env : Env} {h₀ : Heap} {E : Value → Shared → Prop} {Q : Flow → Shared → Prop}
theorem For_cellL {σ : Type} {x : Str} {px pos : Pos} {iter : Expr} {body : List Stmt} {l c : Addr} {vs : List Value} {ns : List Int} {nn : Nat} {m₀ : Str → Option Value} (Led : σ → List (Addr × Obj)) (ps : σ → List (Str × Value)) (Facts : σ → Prop) (stored : List Str) (P : List Int → σ → Prop) (c₀ : σ)
    (hh : A.handled = none) (hk : env.scope.kind = .function) (hx : env.kindOf x = some .cell) (hc : env.cells.lookup x = some c)
    (hiter : wpAny (model prog w) A (eval iter env) (fun xv s₁ => xv = .ref l ∧ s₁ = s) E s)
    (hLed : ∀ q, Facts q → ∃ o v₀ r, Led q = (c, o) :: r ∧ o.data = .cell v₀ ∧ ∀ p ∈ r, p.1 ≠ c)
    (hl : ∀ q, (l, listOf vs.toArray nn) ∈ Led q) (hadr : ∀ q, (Led q).map (·.1) = (Led c₀).map (·.1)) (hi : IntsAre vs ns) (F : Fr h₀ env.locals s.heap m₀) (N : News h₀ env.locals s.heap (Led c₀)) (hf : Facts c₀) (hkk : ∀ p ∈ ps c₀, m₀ p.1 = some p.2) (hp : P [] c₀)
    (turn : ∀ (q : σ) pre post n t (o o' : Obj) r (u : Str → Option Value) h tk own, ns = pre ++ n :: post → n ∈ ns → OwnOff own ((Led c₀).map (·.1)) → Facts q → P pre q → Led q = (c, o) :: r → o'.data = .cell (some (.int n t)) →
      Fr h₀ env.locals h (fun y => if y = x then u y else kstB (fun z => if stored.contains z then u z else m₀ z) (ps q) y) → News h₀ env.locals h (((c, o') :: r) ++ own) →
      wpAny (model prog w) A (execs body env) (InvPostN h₀ env.locals (KstS Led ps Facts x stored m₀ P (pre ++ [n])) own ((Led c₀).map (·.1)) { s with heap := h, toks := tk } Q) E { s with heap := h, toks := tk })
    (done : ∀ (q : σ) (u : Str → Option Value) h tk, Facts q → P ns q → Fr h₀ env.locals h (fun y => if y = x then u y else kstB (fun z => if stored.contains z then u z else m₀ z) (ps q) y) → News h₀ env.locals h (Led q) → Q .next { s with heap := h, toks := tk })
    (hs : ∀ x, foldedSetIterable iter env x = pure x := by intro _; rfl)
    (hE : PassesOwn (model prog w) A env E := by passes_own) :
    wpAny (model prog w) A (exec (.For (.Name x px) iter body [] pos) env) Q E s := by
  refine wpAny_For (wpAny_mono hiter (fun xv s₁ h₁ => ?_) fun _ _ e => e) hs
  obtain ⟨rfl, rfl⟩ := h₁
  have hol : s₁.heap.get? l = some (listOf vs.toArray nn) := (N _ (hl c₀)).1
  have hls : s₁.heap.IsList l vs.toArray := ⟨_, hol, rfl, nn, rfl⟩
  have hne : l ≠ s₁.heap.objs.size := Nat.ne_of_lt (Heap.lt_size hol)
  obtain ⟨oc, vc, rc, eLed, hdc, hrc⟩ := hLed c₀ hf
  have hcm : (c, oc) ∈ Led c₀ := by rw [eLed]; exact .head _
  have hcget : s₁.heap.get? c = some oc := (N _ hcm).1
  have hcl : c ≠ l := fun e => by
    rw [e, hol] at hcget
    have := Option.some.inj hcget
    rw [← this] at hdc
    cases hdc
  have hcI : c ≠ s₁.heap.objs.size := Nat.ne_of_lt (Heap.lt_size hcget)
  refine wpAny_pyIter_list hls ?_
  have W := Walks.list (prog := prog) (w := w) hh s₁.heap.objs.size l hne vs.toArray
  have hlen : vs.toArray.size = ns.length := by simp [hi.length]
  rw [hlen] at W
  have hLf : env.locals ∉ [s₁.heap.objs.size, l] := by
    intro hm
    rcases List.mem_cons.mp hm with e | hm
    · exact absurd F.ns.lt (e ▸ Nat.lt_irrefl _)
    · exact (N _ (hl c₀)).2.1 ((List.mem_singleton.mp hm).symm)
  refine forLoop_cell (R := fun r s' => match r with | .ok f => Q f s' | .error e => cameBackBy (model prog w) A env E e s') W hk hx hc hLf (by
      intro hm
      rcases List.mem_cons.mp hm with e | hm
      · exact hcI e
      · exact hcl (List.mem_singleton.mp hm)) (by
      intro b hb
      rw [List.mem_singleton.mp hb]
      exact next_is_new F) (by
      intro p hp hI
      exact absurd (Heap.lt_size (N p hp).1) ((List.mem_singleton.mp hI) ▸ Nat.lt_irrefl _)) ⟨⟨_, Heap.get?_push_size _ rfl, rfl, rfl⟩, hls.at fun o e => Heap.get?_push_of_some _ e⟩ (F.push _) (fun p hp => ⟨Heap.get?_push_of_some _ (N p hp).1, (N p hp).2⟩)
    (fun i m nx => KstS Led ps Facts x stored m₀ P (ns.take i) m nx) ⟨c₀, rfl, hf, hkk, fun _ _ _ _ => rfl, by simpa using hp⟩ ?_ ?_ ?_
  · rintro i m' nx ⟨q, rfl, hf', _⟩
    exact hLed q hf'
  · rintro i v m₁ o' r o s₂ ⟨hh', tk', rfl⟩ hin hP ⟨q, eq, hf', h1, h2, hp'⟩ hd' hoff hst F₁ N₁
    have hlt' : i < ns.length := hin
    obtain ⟨t, hxv⟩ := hi.get i ns[i] (by simp [hlt'])
    have hv : v = .int ns[i] t := by
      have hP' : vs[i]? = some v := by simpa using hP
      rw [hxv] at hP'; exact (Option.some.inj hP').symm
    subst hv
    have hs9 : ns.take (i + 1) = ns.take i ++ [ns[i]] := by rw [List.take_add_one, List.getElem?_eq_getElem hlt']; rfl
    have e9 : ns = ns.take i ++ ns[i] :: ns.drop (i + 1) := by
      have ht := List.take_append_drop (i + 1) ns
      rw [hs9, List.append_assoc] at ht
      exact ht.symm
    rw [hs9]
    obtain ⟨own, hown⟩ : ∃ own, own = ownOf h₀ [s₁.heap.objs.size, l] hh' := ⟨_, rfl⟩
    have hsep : OwnOff (own.filter fun p => decide (p.1 = s₁.heap.objs.size)) ((Led c₀).map (·.1)) := by
      intro p hp b hb e
      obtain ⟨z, hz, rfl⟩ := List.mem_map.mp hb
      have h1 : p.1 = s₁.heap.objs.size := by simpa using (List.mem_filter.mp hp).2
      exact absurd (Heap.lt_size (N z hz).1) (by rw [← e, h1]; exact Nat.lt_irrefl _)
    have hl2 : (l, listOf vs.toArray nn) ∈ (c, o') :: r := by
      have := hl q
      rw [← eq] at this
      rcases List.mem_cons.mp this with e | e
      · exact absurd (congrArg Prod.fst e).symm hcl
      · exact .tail _ e
    have N₂ : News h₀ env.locals hh' (((c, o') :: r) ++ own.filter fun p => decide (p.1 = s₁.heap.objs.size)) := fun p hp => N₁ p ((List.mem_append.mp hp).elim (fun h => List.mem_append.mpr (.inr h)) fun h => List.mem_append.mpr (.inl (hown ▸ (List.mem_filter.mp h).1)))
    have hlo : hh'.get? l = some (listOf vs.toArray nn) := (N₁ _ (List.mem_append.mpr (.inr hl2))).1
    refine wpAny_passesOwn hE (wpAny_mono (turn q _ _ ns[i] t o o' r m₁ hh' tk' _ e9 (List.getElem_mem hlt') hsep hf' hp' eq.symm hd' (kst_frOut h1 h2 F₁) N₂) (fun f s₃ p => ?_) fun _ _ e => e)
    have fin : InvEndN h₀ env.locals (KstS Led ps Facts x stored m₀ P (ns.take i ++ [ns[i]])) (own.filter fun p => decide (p.1 = s₁.heap.objs.size)) ((Led c₀).map (·.1)) { s₁ with heap := hh', toks := tk' } s₃ →
        LoopStepU h₀ env.locals [s₁.heap.objs.size] (ownOf h₀ [s₁.heap.objs.size, l] hh') (KstS Led ps Facts x stored m₀ P (ns.take i ++ [ns[i]])) { s₁ with heap := hh', toks := tk' } .next s₃ := by
      rintro ⟨h', tk, m', news', nx, e, F', N', hn, ho, ha, hm⟩
      refine ⟨rfl, h', tk, m', nx, e, F', fun p hp => ?_, fun p hp => ?_, hm⟩
      · rcases List.mem_append.mp hp with h | h
        · by_cases hI : p.1 = s₁.heap.objs.size
          · exact N' p (ho p (List.mem_filter.mpr ⟨hown ▸ h, by simpa using hI⟩))
          · have h1 : p.1 = l := by
              rcases List.mem_cons.mp (ownOf_sub p h) with h2 | h2
              · exact absurd h2 hI
              · exact List.mem_singleton.mp h2
            have h2 : hh'.get? p.1 = some p.2 := (news_ownOf hLf p h).1
            rw [h1, hlo] at h2
            have h3 : p = (l, listOf vs.toArray nn) := Prod.ext h1 (Option.some.inj h2).symm
            rw [h3]
            obtain ⟨q', rfl, _⟩ := hm
            exact N' _ (hn _ (hl q'))
        · exact N' p (hn p h)
      · have h1 : p.1 ∈ nx.map (·.1) := List.mem_map.mpr ⟨p, hp, rfl⟩
        rw [ha] at h1
        obtain ⟨z, hz, e⟩ := List.mem_map.mp h1
        intro hI
        exact absurd (Heap.lt_size (N z hz).1) (by rw [e, List.mem_singleton.mp hI]; exact Nat.lt_irrefl _)
    cases f with
    | ret v => exact .ret p
    | brk => exact .brk p
    | next => exact .next (fin p)
    | cont => exact .cont (fin p)
  · rintro h' tk m' news' F' N' _ ⟨q, rfl, hf', h1, h2, hp'⟩
    rw [List.take_length] at hp'
    exact done q m' h' tk hf' hp' (kst_frOut h1 h2 F') N'
end
end Mine
end
section
open PySem PySem.W PyProof.Rows PySem.Spec
namespace Mine
section
variable {prog : Program} {w : World} {A : Around} {s : Shared} {h₀ : Heap} {L : Addr} {m : Str → Option Value} {env : Env}
theorem compFour {ct elt : Expr} {x : Str} {scope : Scope} {cl : List (Str × Addr)} {S : List (Addr × Obj) → Prop} {P : Nat → Value → Prop} {Fin : List Value → List (Addr × Obj) → Prop} {news : List (Addr × Obj)} (T : Nat → Bool) (V : Nat → Value)
    (s0 : ∀ k ys, (T 0 = true → LCt.CompRestT prog w A h₀ L m env ct elt x scope cl s S P Fin k 1 (ys ++ [V 0]) news) → (T 0 = false → LCt.CompRestT prog w A h₀ L m env ct elt x scope cl s S P Fin k 1 ys news) → LCt.CompRestT prog w A h₀ L m env ct elt x scope cl s S P Fin (k + 1) 0 ys news)
    (s1 : ∀ k ys, (T 1 = true → LCt.CompRestT prog w A h₀ L m env ct elt x scope cl s S P Fin k 2 (ys ++ [V 1]) news) → (T 1 = false → LCt.CompRestT prog w A h₀ L m env ct elt x scope cl s S P Fin k 2 ys news) → LCt.CompRestT prog w A h₀ L m env ct elt x scope cl s S P Fin (k + 1) 1 ys news)
    (s2 : ∀ k ys, (T 2 = true → LCt.CompRestT prog w A h₀ L m env ct elt x scope cl s S P Fin k 3 (ys ++ [V 2]) news) → (T 2 = false → LCt.CompRestT prog w A h₀ L m env ct elt x scope cl s S P Fin k 3 ys news) → LCt.CompRestT prog w A h₀ L m env ct elt x scope cl s S P Fin (k + 1) 2 ys news)
    (s3 : ∀ k ys, (T 3 = true → LCt.CompRestT prog w A h₀ L m env ct elt x scope cl s S P Fin k 4 (ys ++ [V 3]) news) → (T 3 = false → LCt.CompRestT prog w A h₀ L m env ct elt x scope cl s S P Fin k 4 ys news) → LCt.CompRestT prog w A h₀ L m env ct elt x scope cl s S P Fin (k + 1) 3 ys news)
    (fin : Fin (((List.range 4).filter T).map V) news) : LCt.CompRestT prog w A h₀ L m env ct elt x scope cl s S P Fin 4 0 [] news := by
  have e : List.range 4 = [0, 1, 2, 3] := rfl
  rw [e] at fin
  refine s0 3 [] (fun h0 => s1 2 _ (fun h1 => s2 1 _ (fun h2 => s3 0 _ (fun h3 => ?_) fun h3 => ?_) fun h2 => s3 0 _ (fun h3 => ?_) fun h3 => ?_) fun h1 => s2 1 _ (fun h2 => s3 0 _ (fun h3 => ?_) fun h3 => ?_) fun h2 => s3 0 _ (fun h3 => ?_) fun h3 => ?_)
    fun h0 => s1 2 _ (fun h1 => s2 1 _ (fun h2 => s3 0 _ (fun h3 => ?_) fun h3 => ?_) fun h2 => s3 0 _ (fun h3 => ?_) fun h3 => ?_) fun h1 => s2 1 _ (fun h2 => s3 0 _ (fun h3 => ?_) fun h3 => ?_) fun h2 => s3 0 _ (fun h3 => ?_) fun h3 => ?_
  all_goals (refine LCt.CompRestT.zero ?_; simpa [List.filter, h0, h1, h2, h3] using fin)
end
end Mine
end
section
open PySem PySem.W PyProof.Rows PySem.Spec
namespace Mine
section
variable {prog : Program} {w : World} {A : Around} {E : Value → Shared → Prop} {s : Shared} {env : Env} {h₀ : Heap} {x : Str} {body : List Stmt} {Q : Flow → Shared → Prop}
/-- a for over a list of texts of the ledger: the state after i turns -/
theorem kst_strsL {σ : Type} {l : Addr} {vs : List Value} {ys : List Str} {nn : Nat} {m₀ : Str → Option Value} (Led : σ → List (Addr × Obj)) (ps : σ → List (Str × Value)) (Facts : σ → Prop) (stored : List Str) (P : Nat → σ → Prop) (c₀ : σ)
    (hh : A.handled = none) (hl : ∀ c : σ, (l, listOf vs.toArray nn) ∈ Led c) (hi : StrsAre vs ys) (F : Fr h₀ env.locals s.heap m₀) (N : News h₀ env.locals s.heap (Led c₀)) (hf : Facts c₀) (hk : ∀ p ∈ ps c₀, m₀ p.1 = some p.2) (hp : P 0 c₀)
    (turn : ∀ (c : σ) (i : Nat) (y : Str) t (u : Str → Option Value) h tk own, ys[i]? = some y → OwnOff own ((Led c₀).map (·.1)) → Facts c → P i c →
      Fr h₀ env.locals h (fun z => if z = x then some (.str y t) else kstB (fun z => if stored.contains z then u z else m₀ z) (ps c) z) → News h₀ env.locals h (Led c ++ own) →
      wpAny (model prog w) A (execs body env) (InvPostN h₀ env.locals (KstS Led ps Facts x stored m₀ (fun pre c => P pre.length c) (List.replicate (i + 1) 0)) own ((Led c₀).map (·.1)) { s with heap := h, toks := tk } Q) E { s with heap := h, toks := tk })
    (done : ∀ (c : σ) (u : Str → Option Value) h tk, Facts c → P ys.length c → Fr h₀ env.locals h (fun y => if y = x then u y else kstB (fun z => if stored.contains z then u z else m₀ z) (ps c) y) → News h₀ env.locals h (Led c) → Q .next { s with heap := h, toks := tk }) :
    wpAny (model prog w) A (pyIter (.ref l)) (fun it s₂ => LoopAtV prog w A h₀ env x body Q E it s₂) E s := by
  have hlen : vs.length = ys.length := StrsAre.length hi
  refine kdl_iter (fun i m nx => nx.map (·.1) = (Led c₀).map (·.1) ∧ KstS Led ps Facts x stored m₀ (fun pre c => P pre.length c) (List.replicate i 0) m nx) hh (hl c₀) F N ⟨rfl, c₀, rfl, hf, hk, fun _ _ _ _ => rfl, hp⟩ ?_ ?_
  · rintro i v m₁ nx h tk own hv hoff _ ⟨ha9, c, rfl, hf', h1, h2, hp'⟩ F₁ N₁
    obtain ⟨y, t, rfl, hy⟩ := StrsAre.item hi i v hv
    rw [ha9] at hoff
    refine wpAny_mono (turn c i y t m₁ h tk own hy hoff hf' (by simpa using hp') (kst_fr h1 h2 F₁) N₁) (fun f s₂ p => ?_) fun _ _ e => e
    have up : InvEndN h₀ env.locals (KstS Led ps Facts x stored m₀ (fun pre c => P pre.length c) (List.replicate (i + 1) 0)) own ((Led c₀).map (·.1)) { s with heap := h, toks := tk } s₂ →
        InvEndG h₀ env.locals (fun m' nx => (l, listOf vs.toArray nn) ∈ nx ∧ nx.map (·.1) = (Led c₀).map (·.1) ∧ KstS Led ps Facts x stored m₀ (fun pre c => P pre.length c) (List.replicate (i + 1) 0) m' nx) own { s with heap := h, toks := tk } s₂ := by
      rintro ⟨h', tk', m', news', nx', e', F', N', hn', ho', ha, hS⟩
      refine ⟨h', tk', m', news', nx', e', F', N', hn', ho', by rw [ha]; exact hoff, ?_, ha, hS⟩
      obtain ⟨c', rfl, _⟩ := hS
      exact hl c'
    cases f with
    | ret v => exact p
    | brk => exact p
    | next => exact up p
    | cont => exact up p
  · rintro m₁ nx h tk ⟨_, c, rfl, hf', h1, h2, hp'⟩ F₁ N₁
    exact done c m₁ h tk hf' (by rw [← hlen]; simpa using hp') (kst_frOut h1 h2 F₁) N₁
end
end Mine
end
section
open PySem PySem.W PyProof.Rows PyProof.V PySem.Spec
namespace Mine
theorem pairs_any {prog prog' : Program} {w w' : World} {es : List DictEntry} {kvs : List (Int × Value)} (h : Pairs (PySem.intKind prog w) es kvs) : Pairs (PySem.intKind prog' w') es kvs := by
  induction h with
  | nil => exact .nil
  | cons h1 h2 _ ih => exact .cons h1 h2 ih
theorem dict_any {prog prog' : Program} {w w' : World} {o : Obj} {kvs : List (Int × Value)} (h : o.IsDictOf (PySem.intKind prog w) kvs) : o.IsDictOf (PySem.intKind prog' w') kvs := by
  obtain ⟨es, ep, h1, h2, h3, h4, h5⟩ := h
  exact ⟨es, ep, h1, h2, h3, pairs_any h4, h5⟩
theorem tabAt_any {prog : Program} {w w' : World} {h₀ h : Heap} {L a : Addr} {o : Obj} {news : List (Addr × Obj)} {c : List (Int × Int)} (N : News h₀ L h news) (hm : (a, o) ∈ news) (hd : IntDict w o c) (hs : (a == sysModules) = false) : TabAt (PySem.intKind prog w') PyData.int h a (kdfD c) := by
  obtain ⟨kvs, d1, d2⟩ := hd
  exact ⟨hs, kvs, Heap.dictOf_iff.mpr ⟨o, (N _ hm).1, dict_any d1⟩, d2⟩
theorem rows_all {c : List (Int × Int)} : ∀ {l : List (Int × Int)}, (∀ p ∈ l, kdfHas c p.1 = true ∧ kdfLook c p.1 0 = p.2) → KeqRows (kdfD c) (kdfD l) true
  | [], _ => .nil
  | (k, v) :: l, h => by
    obtain ⟨h1, h2⟩ := h (k, v) List.mem_cons_self
    have e := kdfD_item h1
    rw [show kdfLook c (k, v).1 0 = v from h2] at e
    have := KeqRows.hit (v := PyData.int v) e (rows_all fun p hp => h p (List.mem_cons_of_mem _ hp))
    rw [show (PyData.eqv (PyData.int v) (PyData.int v) && true) = true by simp [PyData.eqv]] at this
    exact this
theorem ptab_rows {f : Nat → Nat} {dn : List Nat} (h : ∀ r, r ∈ dn ↔ r < 16) : KeqRows (kdfD (tab f 16)) (kdfD (ptab f dn)) true := by
  refine rows_all fun p hp => ?_
  obtain ⟨r, hr, rfl⟩ := List.mem_map.mp hp
  have h16 := (h r).mp hr
  exact ⟨by rw [tab_has]; exact decide_eq_true h16, tab_look f r 16 h16⟩
theorem short16 : ∀ (n : Nat) (l : List Nat), l.Nodup → (∀ r, r ∈ l → r < n) → l.length ≤ n
  | 0, [], _, _ => Nat.le_refl _
  | 0, x :: _, _, h => absurd (h x List.mem_cons_self) (Nat.not_lt_zero x)
  | n + 1, l, hn, h => by
    have := short16 n (l.erase n) (hn.erase n) fun r hr => by
      have h1 := h r (List.mem_of_mem_erase hr)
      have h2 : r ≠ n := fun e => by
        subst e
        exact (List.Nodup.not_mem_erase hn) hr
      omega
    by_cases hm : n ∈ l
    · rw [List.length_erase_of_mem hm] at this; omega
    · rw [List.erase_of_not_mem hm] at this; omega
theorem dn_len {dn : List Nat} (hn : dn.Nodup) (h : ∀ r, r ∈ dn ↔ r < 16) : dn.length = 16 :=
  Nat.le_antisymm (short16 16 dn hn fun r hr => (h r).mp hr) (holes 16 dn fun v hv => (h v).mpr hv)
theorem dicts_eq {A : Around} {s : Shared} {w : World} {h₀ : Heap} {L a b : Addr} {oa ob : Obj} {news : List (Addr × Obj)} {f : Nat → Nat} {dn : List Nat} (N : News h₀ L s.heap news) (ha : (a, oa) ∈ news) (hb : (b, ob) ∈ news) (da : IntDict w oa (ptab f dn)) (db : IntDict w ob (tab f 16))
    (sa : (a == sysModules) = false) (sb : (b == sysModules) = false) (hn : dn.Nodup) (h16 : ∀ r, r ∈ dn ↔ r < 16) (hu : A.units < cLine) : SeqAt.EqAt A s (.ref a) (.ref b) true := by
  by_cases hab : a = b
  · subst hab; exact SeqAt.EqAt.same _
  · refine SeqAt.EqAt.of_refs hab fun prog w' E Q hq => ?_
    exact keq_tabs (knd := PySem.intKind prog w') (enc := PyData.int) PyProof.V.same_int (tabAt_any N ha da sa) (tabAt_any N hb db sb) (by rw [kdfD_length, kdfD_length, ptab_len, tab_len, dn_len hn h16]) hu (ptab_rows h16) hq
theorem tups_eq {prog : Program} {A : Around} {E : Value → Shared → Prop} {s : Shared} {w : World} {h₀ : Heap} {L a b a1 a2 b1 b2 : Addr} {oa1 oa2 ob1 ob2 : Obj} {news : List (Addr × Obj)} {f g : Nat → Nat} {dn : List Nat} {Q : Value → Shared → Prop} (N : News h₀ L s.heap news) (ha : (a, tup2 a1 a2) ∈ news) (hb : (b, tup2 b1 b2) ∈ news)
    (ha1 : (a1, oa1) ∈ news) (ha2 : (a2, oa2) ∈ news) (hb1 : (b1, ob1) ∈ news) (hb2 : (b2, ob2) ∈ news) (d1 : IntDict w oa1 (ptab f dn)) (d2 : IntDict w oa2 (ptab g dn)) (e1 : IntDict w ob1 (tab f 16)) (e2 : IntDict w ob2 (tab g 16))
    (s1 : (a1 == sysModules) = false) (s2 : (a2 == sysModules) = false) (t1 : (b1 == sysModules) = false) (t2 : (b2 == sysModules) = false) (hn : dn.Nodup) (h16 : ∀ r, r ∈ dn ↔ r < 16) (hu : A.units < cLine) (hu1 : A.in1.units < cLine) (h : Q (.bool true) s) :
    wpAny (model prog w) A (compareOp .Eq (.ref a) (.ref b)) Q E s := by
  refine SeqAt.eq_tupleAt (items := #[.ref a1, .ref a2]) (items2 := #[.ref b1, .ref b2]) (e := fun _ => true) ⟨_, (N _ ha).1, rfl, _, rfl⟩ ⟨_, (N _ hb).1, rfl, _, rfl⟩ hu (fun j h1 h2 => ?_) h
  match j, h1, h2 with
  | 0, _, _ => exact dicts_eq N ha1 hb1 d1 e1 s1 t1 hn h16 hu1
  | 1, _, _ => exact dicts_eq N ha2 hb2 d2 e2 s2 t2 hn h16 hu1
theorem setsOf_up (ns : List Int) : ∃ Ss : List Nat, (ns.foldl (fun (acc : List Int) (t : Int) => if acc.any (· == 1 + Int.fmod t 15) then acc else acc ++ [1 + Int.fmod t 15]) []) = up Ss ∧ Ss.Nodup ∧ (∀ s ∈ Ss, 1 ≤ s ∧ s < 16) ∧ Ss.length ≤ ns.length := by
  have key : ∀ (ns : List Int) (acc : List Nat), acc.Nodup → (∀ s ∈ acc, 1 ≤ s ∧ s < 16) → ∃ Ss : List Nat, (ns.foldl (fun (acc : List Int) (t : Int) => if acc.any (· == 1 + Int.fmod t 15) then acc else acc ++ [1 + Int.fmod t 15]) (up acc)) = up Ss ∧ Ss.Nodup ∧ (∀ s ∈ Ss, 1 ≤ s ∧ s < 16) ∧ Ss.length ≤ acc.length + ns.length := by
    intro ns
    induction ns with
    | nil => intro acc h1 h2; exact ⟨acc, rfl, h1, h2, Nat.le_refl _⟩
    | cons t ns ih =>
      intro acc h1 h2
      obtain ⟨v, hv, hv1, hv2⟩ : ∃ v : Nat, 1 + Int.fmod t 15 = (v : Int) ∧ 1 ≤ v ∧ v < 16 := by
        have h3 := Int.emod_nonneg t (show (15 : Int) ≠ 0 by decide)
        have h4 := Int.emod_lt_of_pos t (show (0 : Int) < 15 by decide)
        rw [Int.fmod_eq_emod_of_nonneg _ (by decide)]
        exact ⟨(1 + t % 15).toNat, by omega, by omega, by omega⟩
      rw [List.foldl_cons, hv, up_any]
      by_cases hm : v ∈ acc
      · rw [if_pos (decide_eq_true hm)]
        obtain ⟨Ss, q1, q2, q3, q4⟩ := ih acc h1 h2
        exact ⟨Ss, q1, q2, q3, by rw [List.length_cons]; omega⟩
      · rw [if_neg (by simp [hm])]
        have e : up acc ++ [(v : Int)] = up (acc ++ [v]) := by rw [up_append]; rfl
        rw [e]
        obtain ⟨Ss, q1, q2, q3, q4⟩ := ih (acc ++ [v]) (List.nodup_append.mpr ⟨h1, List.nodup_cons.mpr ⟨by simp, List.nodup_nil⟩, fun a ha b hb hab => hm (by rw [← List.mem_singleton.mp hb, ← hab]; exact ha)⟩) (fun s hs => by
          rcases List.mem_append.mp hs with hs | hs
          · exact h2 s hs
          · rw [List.mem_singleton.mp hs]; exact ⟨hv1, hv2⟩)
        exact ⟨Ss, q1, q2, q3, by simp only [List.length_append, List.length_cons, List.length_nil] at q4 ⊢; omega⟩
  obtain ⟨Ss, q1, q2, q3, q4⟩ := key ns [] List.nodup_nil (fun _ h => nomatch h)
  exact ⟨Ss, q1, q2, q3, by simpa using q4⟩
end Mine
end
section
namespace Mine
local macro_rules | `(tactic| walk_at "pyIter ref") => `(tactic| (k_here; refine Hold.out ?_))
local macro_rules | `(tactic| walk_at "exec For Name Subscript cons nil") => `(tactic| (k_here; (rename Fr _ _ _ _ => lF'); (with_unfolding_all refine' For_invVF lF' ?k1 ?k2 ?_; (case k1 => exact rfl); (case k2 => exact rfl); k_whole)))
local macro_rules | `(tactic| walk_at "exec For Name Name cons nil") => `(tactic| (k_here; (rename Fr _ _ _ _ => lF'); (with_unfolding_all refine' For_invVF lF' ?k1 ?k2 ?_; (case k1 => exact rfl); (case k2 => exact rfl); k_whole)))
local macro_rules | `(tactic| walk_at "exec For Name Call cons nil") => `(tactic| (k_here; (rename Fr _ _ _ _ => lF'); (with_unfolding_all refine' For_invVF lF' ?k1 ?k2 ?_; (case k1 => exact rfl); (case k2 => exact rfl); k_whole)))
local macro_rules | `(tactic| walk_at "compareOp NotIn int ref") => `(tactic| (k_here; k_dflt (refine notin_list_ints (News.isList (by k_asm) (by k_mem)) (by assumption) ?_)))
local macro_rules | `(tactic| size_fits) => `(tactic| first | (with_reducible assumption) | (simp only [List.size_toArray, List.length_cons, List.length_nil, List.length_append, PySem.sizeLine_eq]; omega))
local macro_rules | `(tactic| walk_at "compareOp In int ref") => `(tactic| (k_here; k_dflt (refine in_list_ints (News.isList (by k_asm) (by k_mem)) (by assumption) ?_)))
local macro_rules | `(tactic| walk_at "exec While Compare cons nil") => `(tactic| (k_here; refine Hold.out ?_))
local macro_rules | `(tactic| walk_at "exec While Call cons nil") => `(tactic| (k_here; refine Hold.out ?_))
local macro_rules | `(tactic| k_all) => `(tactic| first | exact List.forall_mem_nil _ | assumption | (refine List.forall_mem_cons.mpr ⟨by k_ne, ?_⟩; k_all) | (refine List.forall_mem_append.mpr ⟨?_, ?_⟩ <;> k_all) | exact OwnOff.ne (by assumption) (by k_memK))
local macro_rules | `(tactic| k_room) => `(tactic| ktr_room)
local macro_rules | `(tactic| k_units) => `(tactic| ktr_units)
section
def setStep (acc : List Int) (t : Int) : List Int := if acc.any (· == 1 + Int.fmod t 15) then acc else acc ++ [1 + Int.fmod t 15]
def setsOf (ns : List Int) : List Int := (ns.take 5).foldl setStep []
theorem setStep_len (l : List Int) : ∀ acc : List Int, (l.foldl setStep acc).length ≤ acc.length + l.length := by
  induction l with
  | nil => intro acc; simp
  | cons x r ih =>
    intro acc
    have h1 := ih (setStep acc x)
    have h2 : (setStep acc x).length ≤ acc.length + 1 := by unfold setStep; split <;> simp
    simp only [List.foldl_cons, List.length_cons]
    omega
theorem con_sets {w : World} {mean : ExcName → Option Value} {mg mb : Str → Option Value} {T : Addr} {vs : List Value} {ns : List Int} {n : Nat} (hi : IntsAre vs ns) (hl : ns.length = 6) :
    Con w mean mg mb 194 20 100 [(T, listOf vs.toArray n)] [.ref T] (fun r nx => ∃ B n' ws, r = .ref B ∧ nx = [(B, listOf ws.toArray n'), (T, listOf vs.toArray n)] ∧ IntsAre ws (setsOf ns) ∧ T < B) := by
  unfold Con
  w_top off
  k_fill
  intro dp un gd cn cs a ccd cl outer A₀ base h₀ L m s Q E B F X N Tp hk hd hu hret
  refine wpAny_call ?_
  refine' code_def (binds := [(Str.ofString "totals", Value.ref T)]) ?c1 ?c2 ?c3 ?c4 ?c5 ?cA ?cF ?cK ?c6 ?c7 ?c8 ?c9 ?cB ?_ ?d2 ?d3 ?d4 ?d5
  case cA => exact rfl
  case cF => exact rfl
  case cK => assumption
  case c1 => k_asm
  case c2 => k_asm
  case c3 => k_asm
  case c4 => k_asm
  case c5 => k_asm
  case c6 => k_dflt k_is
  case c7 => k_dflt k_is
  case c8 => ktr_room
  case c9 => exact BindsTo.of_eq (by kernel_rfl)
  case d5 => decide
  case cB => exact locs rfl
  case d2 => exact rfl
  case d3 => exact rfl
  case d4 => exact rfl
  intro g0 L0 h0' FG0 F0 N0 B0 X0 T0
  simp only [List.reverse_cons, List.reverse_nil, List.nil_append] at F0
  k_fold
  k_steps
  refine ⟨?_⟩
  rename Fr _ _ _ _ => lF
  rename News _ _ _ _ => lN
  rename IntsAre _ (List.take 5 ns) => hI
  obtain ⟨D, rfl⟩ := nm1 lN
  obtain ⟨S, rfl⟩ := nm2 lN
  obtain ⟨ws, rfl⟩ := nmV hI
  refine kst_listL (σ := List Value × List Int × Nat) (fun c => [(D, listOf ws.toArray 0), (S, listOf c.1.toArray c.2.2), (T, listOf vs.toArray n)]) (fun _ => []) (fun c => IntsAre c.1 c.2.1) [Str.ofString "one"] (fun pre c => c.2.1 = pre.foldl setStep []) ([], [], 0)
    rfl (fun c => List.Mem.head _) hI lF lN .nil (fun _ h => nomatch h) rfl ?_ ?_
  · rintro ⟨v1, n1, c1⟩ pre post k t u h tk own he hmem hoff hfa hinv Fx Nx
    dsimp only [kstB] at Fx
    dsimp only at hfa hinv
    simp only [List.cons_append, List.nil_append] at Nx
    simp only [List.map_cons, List.map_nil] at hoff
    have hz : v1.length ≤ 60 := by rw [hfa.length, hinv]; exact Nat.le_trans (setStep_len pre []) (by have := congrArg List.length he; simp only [List.length_append, List.length_cons, List.length_take] at this; simp only [List.length_nil]; omega)
    generalize hP : InvPostN _ _ _ _ _ _ _ = P
    k_steps
    all_goals subst hP
    all_goals rename (List.any _ _ = _) => hq
    · refine kst_end (σ := List Value × List Int × Nat) (v1, n1, c1) (by assumption) (by assumption) (by kst_in) (by intro p hp; k_ownIn) rfl hfa (by kst_all) (by kst_same) ?_
      show n1 = _
      rw [List.foldl_append, ← hinv]
      show n1 = setStep n1 k
      unfold setStep
      rw [if_pos hq]
    · rename News g0 _ _ _ => lN2
      simp only [List.push_toArray] at lN2
      refine kst_end (σ := List Value × List Int × Nat) (v1 ++ [Value.int (1 + Int.fmod k 15) _], setStep n1 k, c1 + 1) (by assumption) (by assumption) (by kst_in) (by intro p hp; k_ownIn) rfl ?_ (by kst_all) (by kst_same) ?_
      · show IntsAre _ (setStep n1 k)
        unfold setStep
        rw [if_neg (by rw [hq]; decide)]
        exact hfa.append (.cons _ _ .nil)
      · show setStep n1 k = _
        rw [hinv, List.foldl_append]; rfl
  · rintro ⟨v1, n1, c1⟩ u h tk hfa hinv Fx Nx
    dsimp only [kstB] at Fx
    dsimp only at hfa hinv Nx
    k_steps
    rename News h₀ L _ _ => lN
    subst hinv
    exact hret _ _ _ _ (by assumption) (kst_newsOf (l' := [(S, listOf v1.toArray c1), (T, listOf vs.toArray n)]) lN (by kst_in)) ⟨S, c1, v1, rfl, rfl, hfa, by assumption⟩
end
section
theorem con_totals {w : World} {mean : ExcName → Option Value} {mg mb : Str → Option Value} {l : Addr} {vs : List Value} {ns : List Int} (hi : IntsAre vs ns) (hn : ns.length ≤ 63) :
    ConB (fun base => base.IsList l vs.toArray) w mean mg mb 187 20 100 [] [.ref l] (fun r nx => ∃ T n ws ts, r = .ref T ∧ nx = [(T, listOf ws.toArray n)] ∧ IntsAre ws ts ∧ ts.length = 6) := by
  unfold ConB
  w_top off
  k_fill
  intro dp un gd cn cs a ccd cl outer A₀ base h₀ L m s Q E B F X N Tp hk hd hu hpre hret
  refine wpAny_call ?_
  refine' code_def (binds := [(Str.ofString "script", Value.ref l)]) ?c1 ?c2 ?c3 ?c4 ?c5 ?cA ?cF ?cK ?c6 ?c7 ?c8 ?c9 ?cB ?_ ?d2 ?d3 ?d4 ?d5
  case cA => exact rfl
  case cF => exact rfl
  case cK => assumption
  case c1 => k_asm
  case c2 => k_asm
  case c3 => k_asm
  case c4 => k_asm
  case c5 => k_asm
  case c6 => k_dflt k_is
  case c7 => k_dflt k_is
  case c8 => ktr_room
  case c9 => exact BindsTo.of_eq (by kernel_rfl)
  case d5 => decide
  case cB => exact locs rfl
  case d2 => exact rfl
  case d3 => exact rfl
  case d4 => exact rfl
  intro g0 L0 h0' FG0 F0 N0 B0 X0 T0
  simp only [List.reverse_cons, List.reverse_nil, List.nil_append] at F0
  k_fold
  have hsc := stays_list B0.stays hpre
  have hz : vs.length ≤ 60 + 3 := by rw [hi.length]; exact hn
  k_steps
  refine ⟨?_⟩
  rename Fr _ _ _ _ => lF
  rename News _ _ _ _ => lN
  rename IntsAre _ (List.take 60 ns) => hI
  obtain ⟨D, rfl⟩ := nm1 lN
  obtain ⟨S, rfl⟩ := nm2 lN
  obtain ⟨ws, rfl⟩ := nmV hI
  refine kst_listL (σ := List Value × List Int × Nat × Int × Tok) (fun c => [(D, listOf ws.toArray 0), (S, listOf c.1.toArray c.2.2.1)]) (fun c => [(Str.ofString "turn", Value.int c.2.2.2.1 c.2.2.2.2)]) (fun c => IntsAre c.1 c.2.1) [] (fun _ c => c.2.1.length = 6 ∧ 0 ≤ c.2.2.2.1 ∧ c.2.2.2.1 < 6) (_, [2, 12, 0, 3, 1, 25], _, 0, _)
    rfl (fun c => List.Mem.head _) hI lF lN (by repeat constructor) (by kst_all) ⟨rfl, Int.le_refl 0, by show (0:Int) < 6; decide⟩ ?_ ?_
  · rintro ⟨v1, n1, c1, tu, tt⟩ pre post k t u h tk own he hmem hoff hfa hinv Fx Nx
    dsimp only [kstB] at Fx
    dsimp only at hfa hinv
    simp only [List.cons_append, List.nil_append] at Nx
    simp only [List.map_cons, List.map_nil] at hoff
    have hz1 : v1.length = 6 := by rw [hfa.length, hinv.1]
    obtain ⟨hl1, ht0, ht6⟩ := hinv
    generalize hP : InvPostN _ _ _ _ _ _ _ = P
    k_steps
    subst hP
    refine kst_end (σ := List Value × List Int × Nat × Int × Tok) (_, _, c1, _, _) (by assumption) (by assumption) (by kst_in) (by intro p hp; k_ownIn) rfl (by assumption) (by kst_all) (by kst_same) ?_
    refine ⟨?_, ?_, ?_⟩
    · show List.length _ = 6
      rw [List.length_set]; exact hl1
    · show 0 ≤ Int.fmod _ 6
      rw [Int.fmod_eq_emod_of_nonneg _ (by decide)]; omega
    · show Int.fmod _ 6 < 6
      rw [Int.fmod_eq_emod_of_nonneg _ (by decide)]; omega
  · rintro ⟨v1, n1, c1, tu, tt⟩ u h tk hfa hinv Fx Nx
    dsimp only [kstB] at Fx
    dsimp only at hfa hinv Nx
    k_steps
    rename News h₀ L _ _ => lN
    exact hret _ _ _ _ (by assumption) (kst_newsOf (l' := [(S, listOf v1.toArray c1)]) lN (by kst_in)) ⟨S, c1, v1, n1, rfl, rfl, hfa, hinv.1⟩
end
section
theorem con_coins {w : World} {mean : ExcName → Option Value} {mg mb : Str → Option Value} {S : Addr} {vs : List Value} {Ss : List Nat} {n : Nat} {a1 a2 a3 a4 : Addr} {o1 o2 o3 o4 : Obj} (hi : IntsAre vs (up Ss)) (hS : ∀ s ∈ Ss, 1 ≤ s ∧ s < 16) (hl : Ss.length ≤ 5) :
    Con w mean mg mb 220 20 100 [(S, listOf vs.toArray n), (a1, o1), (a2, o2), (a3, o3), (a4, o4)] [.ref S] (fun r nx => ∃ C n' ws, r = .ref C ∧ nx = [(C, listOf ws.toArray n'), (S, listOf vs.toArray n), (a1, o1), (a2, o2), (a3, o3), (a4, o4)] ∧ IntsAre ws (up (coinsTo Ss 4)) ∧ S < C ∧ a1 < C ∧ a2 < C ∧ a3 < C ∧ a4 < C) := by
  unfold Con
  w_top off
  k_fill
  intro dp un gd cn cs a ccd cl outer A₀ base h₀ L m s Q E B F X N Tp hk hd hu hret
  refine wpAny_call ?_
  refine' code_def (binds := [(Str.ofString "sets", Value.ref S)]) ?c1 ?c2 ?c3 ?c4 ?c5 ?cA ?cF ?cK ?c6 ?c7 ?c8 ?c9 ?cB ?_ ?d2 ?d3 ?d4 ?d5
  case cA => exact rfl
  case cF => exact rfl
  case cK => assumption
  case c1 => k_asm
  case c2 => k_asm
  case c3 => k_asm
  case c4 => k_asm
  case c5 => k_asm
  case c6 => k_dflt k_is
  case c7 => k_dflt k_is
  case c8 => ktr_room
  case c9 => exact BindsTo.of_eq (by kernel_rfl)
  case d5 => decide
  case cB => exact locs rfl
  case d2 => exact rfl
  case d3 => exact rfl
  case d4 => exact rfl
  intro g0 L0 h0' FG0 F0 N0 B0 X0 T0
  simp only [List.reverse_cons, List.reverse_nil, List.nil_append] at F0
  k_fold
  k_steps
  refine ⟨?_⟩
  rename Fr _ _ _ _ => lF
  rename News _ _ _ _ => lN
  rename IsRange _ _ _ _ _ _ _ _ => lR
  obtain ⟨C, rfl⟩ := nm1 lN
  refine kst_range (n := 4) (σ := List Value × List Nat × Nat) (fun c => [(C, listOf c.1.toArray c.2.2), (S, listOf vs.toArray n), (a1, o1), (a2, o2), (a3, o3), (a4, o4)]) (fun _ => []) (fun c => IntsAre c.1 (up c.2.1)) [Str.ofString "near", Str.ofString "one", Str.ofString "worth", Str.ofString "k"] (fun pre c => c.2.1 = coinsTo Ss pre.length) ([], [], 0)
    rfl lR (by decide) rfl lF lN .nil (fun _ h => nomatch h) rfl ?_ ?_
  · rintro ⟨v1, C1, c1⟩ pre k t u h tk own he hlt hoff hfa hinv Fx Nx
    dsimp only [kstB] at Fx
    dsimp only at hfa hinv
    simp only [List.cons_append, List.nil_append] at Nx
    simp only [List.map_cons, List.map_nil] at hoff
    generalize htop : pre.length = top at *
    have he' : k = (top : Int) := by omega
    subst he'
    have hC1 : (up C1).length = top := by rw [up_len, hinv, coinsTo_len]
    have hC2 : v1.length = top := by rw [hfa.length, hC1]
    generalize hP : InvPostN _ _ _ _ _ _ _ = P
    k_steps
    refine ⟨?_⟩
    rename Fr _ _ _ _ => lF
    rename News _ _ _ _ => lN
    obtain ⟨M, rfl⟩ := nm1 lN
    rename C < M ∧ _ => lM
    have hMo := ne_of_allLt lM.2.2.2.2.2.2
    refine kst_listL (σ := List Value × List Nat × Nat) (fun c => (M, listOf c.1.toArray c.2.2) :: (C, listOf v1.toArray c1) :: (S, listOf vs.toArray n) :: (a1, o1) :: (a2, o2) :: (a3, o3) :: (a4, o4) :: own) (fun _ => []) (fun c => IntsAre c.1 (up c.2.1)) [Str.ofString "worth", Str.ofString "k"] (fun pre c => c.2.1 = nearC C1 top (pre.map Int.toNat)) ([], [], 0)
      rfl (fun c => List.Mem.tail _ (List.Mem.tail _ (List.Mem.head _))) hi lF lN .nil (fun _ h => nomatch h) rfl ?_ ?_
    · rintro ⟨v2, N2, c2⟩ pre2 post2 k2 t2 u2 h2 tk2 own2 he2 hmem2 hoff2 hfa2 hinv2 Fx2 Nx2
      dsimp only [kstB] at Fx2
      dsimp only at hfa2 hinv2
      simp only [List.cons_append, List.nil_append] at Nx2
      simp only [List.map_cons, List.map_nil] at hoff2
      obtain ⟨sv, hsv, rfl⟩ := mem_up hmem2
      have hz2 : v2.length ≤ 60 := by
        rw [hfa2.length, up_len, hinv2]
        have h1 := nearC_len C1 top (pre2.map Int.toNat)
        have h2 := congrArg List.length he2
        rw [List.length_map] at h1
        simp only [List.length_append, up_len, List.length_cons] at h2
        omega
      generalize hP2 : InvPostN _ _ _ _ _ _ _ = P2
      k_steps
      · refine ⟨?_⟩
        rename Fr _ _ _ _ => lF
        rename News _ _ _ _ => lN
        rename IsRange _ _ _ _ _ _ _ _ => lR
        rename Int.fdiv _ _ = 1 => hq2
        refine kst_range (n := top) (σ := Nat × Tok) (fun _ => (M, listOf v2.toArray c2) :: (C, listOf v1.toArray c1) :: (S, listOf vs.toArray n) :: (a1, o1) :: (a2, o2) :: (a3, o3) :: (a4, o4) :: (own ++ own2)) (fun c => [(Str.ofString "worth", Value.int (c.1 : Int) c.2)]) (fun _ => True) [] (fun pre c => c.1 = xorTo C1 sv pre.length) (0, _)
          rfl lR (small_one (by omega) (by omega) (by omega) (by omega)) (by rw [rangeSize_nat]; simp) lF lN trivial (by kst_all) rfl ?_ ?_
        · rintro ⟨w3, t3⟩ pre3 k3 tk3 u3 h3 tok3 own3 he3 hlt3 hoff3 hfa3 hinv3 Fx3 Nx3
          dsimp only [kstB] at Fx3
          dsimp only at hfa3 hinv3
          simp only [List.cons_append, List.nil_append] at Nx3
          simp only [List.map_cons, List.map_nil] at hoff3
          generalize hj : pre3.length = j at *
          have he3' : k3 = (j : Int) := by omega
          subst he3'
          generalize hP3 : InvPostN _ _ _ _ _ _ _ = P3
          k_steps
          all_goals subst hP3
          all_goals rename Fr g0 L0 _ _ => lF3
          all_goals (try simp only [Int.toNat_natCast, up_getD, bitXor_nat] at lF3)
          · rename Builtin.bitAnd _ _ ≠ 0 => hb
            simp only [Int.toNat_natCast, bit_nat] at hb
            refine kst_end (σ := Nat × Tok) (w3 ^^^ C1.getD j 0, _) lF3 (by assumption) (by kst_in) (by intro p hp; kst_mem) rfl trivial (by kst_all) (by kst_same) ?_
            show _ = xorTo _ _ _
            rw [List.length_append, hj, show [(j : Int)].length = 1 from rfl, xorTo_succ, ← hinv3]
            unfold xstep
            split
            · rfl
            · rename_i hn; rw [if_neg hn] at hb; exact absurd rfl hb
          · rename Builtin.bitAnd _ _ = 0 => hb
            simp only [Int.toNat_natCast, bit_nat] at hb
            refine kst_end (σ := Nat × Tok) (w3, _) lF3 (by assumption) (by kst_in) (by intro p hp; kst_mem) rfl trivial (by kst_all) (by kst_same) ?_
            show _ = xorTo _ _ _
            rw [List.length_append, hj, show [(j : Int)].length = 1 from rfl, xorTo_succ, ← hinv3]
            unfold xstep
            split
            · rename_i hn; rw [if_pos hn] at hb; exact absurd hb (by decide)
            · rfl
        · rintro ⟨w3, t3⟩ u3 h3 tok3 hfa3 hinv3 Fx3 Nx3
          dsimp only [kstB] at Fx3
          dsimp only at hfa3 hinv3 Nx3
          rw [rangeKs_length] at hinv3
          k_steps
          subst hP2
          rename News g0 L0 _ _ => lN3
          simp only [List.push_toArray] at lN3
          simp only [Int.toNat_natCast, shr_nat] at hq2
          refine kst_end (σ := List Value × List Nat × Nat) (v2 ++ [Value.int w3 _], N2 ++ [w3], c2 + 1) (by assumption) lN3 (by kst_in) (by intro p hp; kst_mem) rfl ?_ (by kst_all) (by kst_same) ?_
          · show IntsAre _ (up (N2 ++ [w3]))
            rw [up_append]; exact hfa2.append (.cons _ _ .nil)
          · show N2 ++ [w3] = _
            rw [List.map_append, nearC_append, ← hinv2]
            unfold nearC
            have : (sv >>> top == 1) = true := by rw [beq_iff_eq]; omega
            simp [this, hinv3]
      · subst hP2
        rename Int.fdiv _ _ ≠ 1 => hq2
        simp only [Int.toNat_natCast, shr_nat] at hq2
        refine kst_end (σ := List Value × List Nat × Nat) (v2, N2, c2) (by assumption) (by assumption) (by kst_in) (by intro p hp; kst_mem) rfl hfa2 (by kst_all) (by kst_same) ?_
        show N2 = _
        rw [List.map_append, nearC_append, ← hinv2]
        unfold nearC
        have : ¬ (sv >>> top == 1) = true := by rw [beq_iff_eq]; omega
        simp [this]
    · rintro ⟨v2, N2, c2⟩ u2 h2 tk2 hfa2 hinv2 Fx2 Nx2
      dsimp only [kstB] at Fx2
      dsimp only at hfa2 hinv2 Nx2
      rw [up_toNat] at hinv2
      k_steps
      refine ⟨?_⟩
      rename Fr _ _ _ _ => lF
      rename News _ _ _ _ => lN
      refine ksw_while (σ := Nat × Tok) (fun _ => (M, listOf v2.toArray c2) :: (C, listOf v1.toArray c1) :: (S, listOf vs.toArray n) :: (a1, o1) :: (a2, o2) :: (a3, o3) :: (a4, o4) :: own) (fun c => [(Str.ofString "worth", Value.int (c.1 : Int) c.2)]) (fun _ => True) [] (fun c => ∀ v, v < c.1 → v ∈ N2) (fun c => N2.length - c.1) (0, _)
        lF lN trivial (by kst_all) (fun v hv => absurd hv (Nat.not_lt_zero v)) ?_
      rintro ⟨w4, t4⟩ u4 h4 tk4 hfa4 hinv4 Fx4 Nx4
      dsimp only [kstB] at Fx4
      dsimp only at hinv4 Nx4
      generalize hP4 : KswPost _ _ _ _ _ _ _ _ _ _ _ _ = P4
      k_steps
      all_goals rename List.any _ _ = _ => hq4
      all_goals rw [up_any] at hq4
      · subst hP4
        have hq5 : w4 ∈ N2 := of_decide_eq_true hq4
        have hnew : ∀ v, v < w4 + 1 → v ∈ N2 := fun v hv => by
          rcases Nat.lt_or_ge v w4 with c | c
          · exact hinv4 v c
          · have : v = w4 := by omega
            rw [this]; exact hq5
        have hlen := holes _ _ hnew
        refine ksw_end (σ := Nat × Tok) (w4 + 1, _) (by assumption) (by assumption) (by kst_in) trivial (by kst_all) (by ksw_same) hnew ?_
        show N2.length - (w4 + 1) < N2.length - w4
        omega
      · subst hP
        have hq5 : w4 ∉ N2 := of_decide_eq_false hq4
        rename News g0 L0 _ _ => lN5
        simp only [List.push_toArray] at lN5
        refine kst_end (σ := List Value × List Nat × Nat) (v1 ++ [Value.int w4 _], C1 ++ [w4], c1 + 1) (by assumption) lN5 (by kst_in) (by intro p hp; kst_mem) rfl ?_ (by kst_all) (by kst_same) ?_
        · show IntsAre _ (up (C1 ++ [w4]))
          rw [up_append]; exact hfa.append (.cons _ _ .nil)
        · show C1 ++ [w4] = _
          rw [List.length_append, htop, show [(top : Int)].length = 1 from rfl]
          show _ = coinsTo Ss top ++ [mex (nearC (coinsTo Ss top) top Ss)]
          rw [← hinv, ← hinv2, isMex_unique (fun _ => Iff.rfl) (mex_is N2) ⟨hq5, hinv4⟩]
  · rintro ⟨v1, C1, c1⟩ u h tk hfa hinv Fx Nx
    dsimp only [kstB] at Fx
    dsimp only at hfa hinv Nx
    k_steps
    rename News h₀ L _ _ => lN
    rw [rangeKs_length] at hinv
    subst hinv
    rename S < C ∧ _ => lC
    exact hret _ _ _ _ (by assumption) (kst_newsOf (l' := [(C, listOf v1.toArray c1), (S, listOf vs.toArray n), (a1, o1), (a2, o2), (a3, o3), (a4, o4)]) lN (by kst_in)) ⟨C, c1, v1, rfl, rfl, hfa, lC⟩
end
section
local macro_rules | `(tactic| walk_at "call ref") => `(tactic| (k_here; (with_reducible show wpAny _ _ (call (Value.ref 220) _) _ _ _); refine Hold.out ?_))
local macro_rules | `(tactic| walk_at "subscriptTail") => `(tactic| (k_here; kdf_here; (with_reducible show wpAny _ _ (subscriptTail _ _ (Value.ref _) (Value.int _ _)) _ _ _); k_dflt (refine kdf_item (by k_tabat) (by first | assumption | ((rename (_ → kdfHas _ _ = true) => hX); exact hX (by assumption))) ?_); intro _))
theorem con_due {w : World} {mean : ExcName → Option Value} {mg mb : Str → Option Value} {S : Addr} {vs : List Value} {Ss : List Nat} {n : Nat} {a1 a2 a3 a4 : Addr} {o1 o2 o3 o4 : Obj} (hi : IntsAre vs (up Ss)) (hS : ∀ s ∈ Ss, 1 ≤ s ∧ s < 16) (hl : Ss.length ≤ 5) :
    Con w mean mg mb 227 40 200 [(S, listOf vs.toArray n), (a1, o1), (a2, o2), (a3, o3), (a4, o4)] [.ref S] (fun r nx => ∃ D Wd Rd oW oR, r = .ref D ∧ nx = [(D, tup2 Wd Rd), (Rd, oR), (Wd, oW), (S, listOf vs.toArray n), (a1, o1), (a2, o2), (a3, o3), (a4, o4)] ∧ IntDict w oW (tab (fun i => xorTo (coinsTo Ss 4) i 4) 16) ∧ IntDict w oR (tab (deepAt Ss) 16) ∧ (Wd == sysModules) = false ∧ (Rd == sysModules) = false) := by
  unfold Con
  w_top off
  k_fill
  intro dp un gd cn cs a ccd cl outer A₀ base h₀ L m s Q E B F X N Tp hk hd hu hret
  refine wpAny_call ?_
  refine' code_def (binds := [(Str.ofString "sets", Value.ref S)]) ?c1 ?c2 ?c3 ?c4 ?c5 ?cA ?cF ?cK ?c6 ?c7 ?c8 ?c9 ?cB ?_ ?d2 ?d3 ?d4 ?d5
  case cA => exact rfl
  case cF => exact rfl
  case cK => assumption
  case c1 => k_asm
  case c2 => k_asm
  case c3 => k_asm
  case c4 => k_asm
  case c5 => k_asm
  case c6 => k_dflt k_is
  case c7 => k_dflt k_is
  case c8 => ktr_room
  case c9 => exact BindsTo.of_eq (by kernel_rfl)
  case d5 => decide
  case cB => exact locs rfl
  case d2 => exact rfl
  case d3 => exact rfl
  case d4 => exact rfl
  intro g0 L0 h0' FG0 F0 N0 B0 X0 T0
  simp only [List.reverse_cons, List.reverse_nil, List.nil_append] at F0
  k_fold
  k_steps
  refine ⟨?_⟩
  refine' con_coins hi hS hl _ _ _ _ _ _ _ _ _ _ _ _ _ _ _ _ _ ?e1 ?e2 ?e3 ?e4 ?e5 ?e6 ?e7 ?e8 ?_
  case e1 => k_asm
  case e2 => k_asm
  case e3 => k_asm
  case e4 => k_asm
  case e5 => k_asm
  case e6 => exact rfl
  case e7 => ktr_room
  case e8 => ktr_units
  rintro r1 nx1 h1 tk1 F1 N1 ⟨C, c0, ws, rfl, rfl, hC, lC⟩
  k_steps
  refine ⟨?_⟩
  rename Fr _ _ _ _ => lF
  rename News _ _ _ _ => lN
  rename IsRange _ _ _ _ _ _ _ _ => lR
  obtain ⟨Rd, rfl⟩ := nm1 lN
  obtain ⟨Wd, rfl⟩ := nm2 lN
  obtain ⟨oR, rfl⟩ := nmO1 lN
  obtain ⟨oW, rfl⟩ := nmO2 lN
  rename Wd < Rd ∧ _ => lRd
  rename C < Wd ∧ _ => lWd
  have sysR : (Rd == sysModules) = false := by assumption
  have sysW : (Wd == sysModules) = false := by assumption
  refine kst_range (n := 16) (σ := (Obj × List (Int × Value) × List (Int × Int)) × (Obj × List (Int × Value) × List (Int × Int))) (fun c => [(Rd, c.1.1), (Wd, c.2.1), (C, listOf ws.toArray c0), (S, listOf vs.toArray n), (a1, o1), (a2, o2), (a3, o3), (a4, o4)]) (fun _ => [])
    (fun c => (c.1.1.IsDictOf (PySem.intKind Challenge.rw_wn0103_01.row.prog w) c.1.2.1 ∧ PyProof.V.FlatPairs PyData.int c.1.2.1 (kdfD c.1.2.2)) ∧ c.2.1.IsDictOf (PySem.intKind Challenge.rw_wn0103_01.row.prog w) c.2.2.1 ∧ PyProof.V.FlatPairs PyData.int c.2.2.1 (kdfD c.2.2.2))
    [Str.ofString "worth", Str.ofString "k", Str.ofString "longest", Str.ofString "one"] (fun pre c => c.1.2.2 = tab (deepAt Ss) pre.length ∧ c.2.2.2 = tab (fun i => xorTo (coinsTo Ss 4) i 4) pre.length) ((oR, [], []), (oW, [], []))
    rfl lR (by decide) rfl lF lN ⟨⟨by assumption, by assumption⟩, by assumption, by assumption⟩ (fun _ h => nomatch h) ⟨rfl, rfl⟩ ?_ ?_
  · rintro ⟨⟨oR1, kR, cR⟩, ⟨oW1, kW, cW⟩⟩ pre k t u h tk own he hlt hoff hfa hinv Fx Nx
    dsimp only [kstB] at Fx
    dsimp only at hfa hinv
    simp only [List.cons_append, List.nil_append] at Nx
    simp only [List.map_cons, List.map_nil] at hoff
    obtain ⟨⟨dR, fR⟩, dW, fW⟩ := hfa
    obtain ⟨hcR, hcW⟩ := hinv
    generalize hrow : pre.length = row at *
    have he' : k = (row : Int) := by omega
    subst he'
    have hC1 : (up (coinsTo Ss 4)).length = 4 := by rw [up_len, coinsTo_len]
    have hC2 : ws.length = 4 := by rw [hC.length, hC1]
    have hzR : cR.length = row := by rw [hcR, tab_len]
    have hzW : cW.length = row := by rw [hcW, tab_len]
    generalize hP : InvPostN _ _ _ _ _ _ _ = P
    k_steps
    refine ⟨?_⟩
    rename Fr _ _ _ _ => lF
    rename News _ _ _ _ => lN
    rename IsRange _ _ _ _ _ _ _ _ => lR
    refine kst_range (n := 4) (σ := Nat × Tok) (fun _ => (Rd, oR1) :: (Wd, oW1) :: (C, listOf ws.toArray c0) :: (S, listOf vs.toArray n) :: (a1, o1) :: (a2, o2) :: (a3, o3) :: (a4, o4) :: own) (fun c => [(Str.ofString "worth", Value.int (c.1 : Int) c.2)]) (fun _ => True) [] (fun pre c => c.1 = xorTo (coinsTo Ss 4) row pre.length) (0, _)
      rfl lR (by decide) rfl lF lN trivial (by kst_all) rfl ?_ ?_
    · rintro ⟨w3, t3⟩ pre3 k3 tk3 u3 h3 tok3 own3 he3 hlt3 hoff3 hfa3 hinv3 Fx3 Nx3
      dsimp only [kstB] at Fx3
      dsimp only at hfa3 hinv3
      simp only [List.cons_append, List.nil_append] at Nx3
      simp only [List.map_cons, List.map_nil] at hoff3
      generalize hj : pre3.length = j at *
      have he3' : k3 = (j : Int) := by omega
      subst he3'
      generalize hP3 : InvPostN _ _ _ _ _ _ _ = P3
      k_steps
      all_goals subst hP3
      all_goals rename Fr g0 L0 _ _ => lF3
      all_goals (try simp only [Int.toNat_natCast, up_getD, bitXor_nat] at lF3)
      · rename Builtin.bitAnd _ _ ≠ 0 => hb
        simp only [Int.toNat_natCast, bit_nat] at hb
        refine kst_end (σ := Nat × Tok) (w3 ^^^ (coinsTo Ss 4).getD j 0, _) lF3 (by assumption) (by kst_in) (by intro p hp; kst_mem) rfl trivial (by kst_all) (by kst_same) ?_
        show _ = xorTo _ _ _
        rw [List.length_append, hj, show [(j : Int)].length = 1 from rfl, xorTo_succ, ← hinv3]
        unfold xstep
        split
        · rfl
        · rename_i hn; rw [if_neg hn] at hb; exact absurd rfl hb
      · rename Builtin.bitAnd _ _ = 0 => hb
        simp only [Int.toNat_natCast, bit_nat] at hb
        refine kst_end (σ := Nat × Tok) (w3, _) lF3 (by assumption) (by kst_in) (by intro p hp; kst_mem) rfl trivial (by kst_all) (by kst_same) ?_
        show _ = xorTo _ _ _
        rw [List.length_append, hj, show [(j : Int)].length = 1 from rfl, xorTo_succ, ← hinv3]
        unfold xstep
        split
        · rename_i hn; rw [if_pos hn] at hb; exact absurd hb (by decide)
        · rfl
    · rintro ⟨w3, t3⟩ u3 h3 tok3 hfa3 hinv3 Fx3 Nx3
      dsimp only [kstB] at Fx3
      dsimp only at hfa3 hinv3 Nx3
      rw [rangeKs_length] at hinv3
      k_steps
      refine ⟨?_⟩
      rename Fr _ _ _ _ => lF
      rename News _ _ _ _ => lN
      obtain ⟨oW2, rfl⟩ := nmO2 lN
      rename Obj.IsDictOf _ oW2 _ => dW2
      rename PyProof.V.FlatPairs _ _ (kdfD (kdfPut _ _ _)) => fW2
      refine kst_listL (σ := Nat × Tok) (fun _ => (Rd, oR1) :: (Wd, oW2) :: (C, listOf ws.toArray c0) :: (S, listOf vs.toArray n) :: (a1, o1) :: (a2, o2) :: (a3, o3) :: (a4, o4) :: own) (fun c => [(Str.ofString "longest", Value.int (c.1 : Int) c.2)]) (fun _ => True) [] (fun pre c => c.1 = (pre.map Int.toNat).foldl (dstep (deepTo Ss row) row) 0) (0, _)
        rfl (fun c => List.Mem.tail _ (List.Mem.tail _ (List.Mem.tail _ (List.Mem.head _)))) hi lF lN trivial (by kst_all) rfl ?_ ?_
      · rintro ⟨w4, t4⟩ pre4 post4 k4 tk4 u4 h4 tok4 own4 he4 hmem4 hoff4 hfa4 hinv4 Fx4 Nx4
        dsimp only [kstB] at Fx4
        dsimp only at hfa4 hinv4
        simp only [List.cons_append, List.nil_append] at Nx4
        simp only [List.map_cons, List.map_nil] at hoff4
        obtain ⟨sv, hsv, rfl⟩ := mem_up hmem4
        have hX : Builtin.bitXor (row : Int) (sv : Int) < (row : Int) → kdfHas cR (Builtin.bitXor (row : Int) (sv : Int)) = true := by
          rw [bitXor_nat, hcR, tab_has]
          intro hlt
          exact decide_eq_true (by omega)
        generalize hP4 : InvPostN _ _ _ _ _ _ _ = P4
        have hLk : Builtin.bitXor (row : Int) (sv : Int) < (row : Int) → kdfLook cR (Builtin.bitXor (row : Int) (sv : Int)) 0 = (((deepTo Ss row).getD (row ^^^ sv) 0 : Nat) : Int) := by
          rw [bitXor_nat, hcR]
          intro hlt
          have hlt' : row ^^^ sv < row := by omega
          rw [tab_look _ _ _ hlt', deepTo_getD _ _ _ hlt']
        k_steps
        all_goals subst hP4
        all_goals rename Fr g0 L0 _ _ => lF4
        · rename Builtin.bitXor _ _ < _ => hlt4
          simp only [hLk hlt4, ite_max] at lF4
          have hlt5 : row ^^^ sv < row := by rw [bitXor_nat] at hlt4; omega
          refine kst_end (σ := Nat × Tok) (max w4 (1 + (deepTo Ss row).getD (row ^^^ sv) 0), _) lF4 (by assumption) (by kst_in) (by intro p hp; kst_mem) rfl trivial (by kst_all) (by kst_same) ?_
          show _ = List.foldl _ _ (List.map _ _)
          rw [List.map_append, List.foldl_append, ← hinv4]
          show _ = dstep (deepTo Ss row) row w4 sv
          unfold dstep
          rw [if_pos hlt5]
        · rename ¬ Builtin.bitXor _ _ < _ => hlt4
          have hlt5 : ¬ row ^^^ sv < row := by rw [bitXor_nat] at hlt4; omega
          refine kst_end (σ := Nat × Tok) (w4, _) lF4 (by assumption) (by kst_in) (by intro p hp; kst_mem) rfl trivial (by kst_all) (by kst_same) ?_
          show _ = List.foldl _ _ (List.map _ _)
          rw [List.map_append, List.foldl_append, ← hinv4]
          show _ = dstep (deepTo Ss row) row w4 sv
          unfold dstep
          rw [if_neg hlt5]
      · rintro ⟨w4, t4⟩ u4 h4 tok4 hfa4 hinv4 Fx4 Nx4
        dsimp only [kstB] at Fx4
        dsimp only at hinv4 Nx4
        rw [up_toNat] at hinv4
        k_steps
        subst hP
        rename PyProof.V.FlatPairs _ _ (kdfD (kdfPut cR _ _)) => fR2
        rename Fr g0 L0 _ _ => lF6
        rename News g0 L0 _ _ => lN6
        obtain ⟨oR2, rfl⟩ := nmO1 lN6
        refine kst_end (σ := (Obj × List (Int × Value) × List (Int × Int)) × (Obj × List (Int × Value) × List (Int × Int))) ((oR2, _, kdfPut cR row w4), (oW2, _, kdfPut cW row w3)) lF6 lN6 (by kst_in) (by intro p hp; kst_mem) rfl ⟨⟨by assumption, fR2⟩, dW2, fW2⟩ (by kst_all) (by kst_same) ?_
        show kdfPut cR _ _ = _ ∧ kdfPut cW _ _ = _
        rw [List.length_append, hrow, show [(row : Int)].length = 1 from rfl, hcR, hcW]
        exact ⟨tab_put _ _ _ hinv4, tab_put _ _ _ hinv3⟩
  · rintro ⟨⟨oR1, kR, cR⟩, ⟨oW1, kW, cW⟩⟩ u h tk hfa hinv Fx Nx
    dsimp only [kstB] at Fx
    dsimp only at hfa hinv Nx
    obtain ⟨⟨dR, fR⟩, dW, fW⟩ := hfa
    obtain ⟨hcR, hcW⟩ := hinv
    rw [rangeKs_length] at hcR hcW
    subst hcR hcW
    k_steps
    rename News h₀ L _ _ => lN
    obtain ⟨D, rfl⟩ := nm1 lN
    exact hret _ _ _ _ (by assumption) (kst_newsOf (l' := [(D, tup2 Wd Rd), (Rd, oR1), (Wd, oW1), (S, listOf vs.toArray n), (a1, o1), (a2, o2), (a3, o3), (a4, o4)]) lN (by kst_in)) ⟨D, Wd, Rd, oW1, oR1, rfl, rfl, ⟨kW, dW, fW⟩, ⟨kR, dR, fR⟩, sysW, sysR⟩
end
section
local macro_rules | `(tactic| k_upd) => `(tactic| assumption)
local macro_rules | `(tactic| k_updF) => `(tactic| assumption)
local macro_rules | `(tactic| k_mem) => `(tactic| assumption)
section
variable {w : World} {mean : ExcName → Option Value} {mg mb : Str → Option Value} {news : List (Addr × Obj)}
theorem con_lt (a b : Int) (t t' : Tok) : Con w mean mg mb 21 9 50 news [.int a t, .int b t'] (fun r nx => r = .bool (decide (a < b)) ∧ nx = news) := by
  unfold Con
  w_top off
  k_fill
  intro dp un gd cn cs a' ccd cl outer A₀ base h₀ L m s Q E B F X N Tp hk hd hu hret
  refine wpAny_call ?_
  refine' code_def (binds := [(Str.ofString "a", Value.int a t), (Str.ofString "b", Value.int b t')]) ?c1 ?c2 ?c3 ?c4 ?c5 ?cA ?cF ?cK ?c6 ?c7 ?c8 ?c9 ?cB ?_ ?d2 ?d3 ?d4 ?d5
  case cA => exact rfl
  case cF => exact rfl
  case cK => assumption
  case c1 => k_asm
  case c2 => k_asm
  case c3 => k_asm
  case c4 => k_asm
  case c5 => k_asm
  case c6 => k_dflt k_is
  case c7 => k_dflt k_is
  case c8 => ktr_room
  case c9 => exact BindsTo.of_eq (by kernel_rfl)
  case d5 => decide
  case cB => exact locs rfl
  case d2 => exact rfl
  case d3 => exact rfl
  case d4 => exact rfl
  intro g0 L0 h0' FG0 F0 N0 B0 X0 T0
  simp only [List.reverse_cons, List.reverse_nil, List.nil_append] at F0
  k_fold
  k_steps
  exact hret _ _ _ _ (by assumption) (by assumption) ⟨rfl, rfl⟩
theorem con_add (a b : Int) (t t' : Tok) : Con w mean mg mb 28 9 50 news [.int a t, .int b t'] (fun r nx => (∃ k, r = .int (a + b) k) ∧ nx = news) := by
  unfold Con
  w_top off
  k_fill
  intro dp un gd cn cs a' ccd cl outer A₀ base h₀ L m s Q E B F X N Tp hk hd hu hret
  refine wpAny_call ?_
  refine' code_def (binds := [(Str.ofString "a", Value.int a t), (Str.ofString "b", Value.int b t')]) ?c1 ?c2 ?c3 ?c4 ?c5 ?cA ?cF ?cK ?c6 ?c7 ?c8 ?c9 ?cB ?_ ?d2 ?d3 ?d4 ?d5
  case cA => exact rfl
  case cF => exact rfl
  case cK => assumption
  case c1 => k_asm
  case c2 => k_asm
  case c3 => k_asm
  case c4 => k_asm
  case c5 => k_asm
  case c6 => k_dflt k_is
  case c7 => k_dflt k_is
  case c8 => ktr_room
  case c9 => exact BindsTo.of_eq (by kernel_rfl)
  case d5 => decide
  case cB => exact locs rfl
  case d2 => exact rfl
  case d3 => exact rfl
  case d4 => exact rfl
  intro g0 L0 h0' FG0 F0 N0 B0 X0 T0
  simp only [List.reverse_cons, List.reverse_nil, List.nil_append] at F0
  k_fold
  k_steps
  exact hret _ _ _ _ (by assumption) (by assumption) ⟨⟨_, rfl⟩, rfl⟩
theorem con_sub (a b : Int) (t t' : Tok) : Con w mean mg mb 42 9 50 news [.int a t, .int b t'] (fun r nx => (∃ k, r = .int (a - b) k) ∧ nx = news) := by
  unfold Con
  w_top off
  k_fill
  intro dp un gd cn cs a' ccd cl outer A₀ base h₀ L m s Q E B F X N Tp hk hd hu hret
  refine wpAny_call ?_
  refine' code_def (binds := [(Str.ofString "a", Value.int a t), (Str.ofString "b", Value.int b t')]) ?c1 ?c2 ?c3 ?c4 ?c5 ?cA ?cF ?cK ?c6 ?c7 ?c8 ?c9 ?cB ?_ ?d2 ?d3 ?d4 ?d5
  case cA => exact rfl
  case cF => exact rfl
  case cK => assumption
  case c1 => k_asm
  case c2 => k_asm
  case c3 => k_asm
  case c4 => k_asm
  case c5 => k_asm
  case c6 => k_dflt k_is
  case c7 => k_dflt k_is
  case c8 => ktr_room
  case c9 => exact BindsTo.of_eq (by kernel_rfl)
  case d5 => decide
  case cB => exact locs rfl
  case d2 => exact rfl
  case d3 => exact rfl
  case d4 => exact rfl
  intro g0 L0 h0' FG0 F0 N0 B0 X0 T0
  simp only [List.reverse_cons, List.reverse_nil, List.nil_append] at F0
  k_fold
  k_steps
  exact hret _ _ _ _ (by assumption) (by assumption) ⟨⟨_, rfl⟩, rfl⟩
theorem con_xor (a b : Int) (t t' : Tok) : Con w mean mg mb 49 9 50 news [.int a t, .int b t'] (fun r nx => (∃ k, r = .int (Builtin.bitXor a b) k) ∧ nx = news) := by
  unfold Con
  w_top off
  k_fill
  intro dp un gd cn cs a' ccd cl outer A₀ base h₀ L m s Q E B F X N Tp hk hd hu hret
  refine wpAny_call ?_
  refine' code_def (binds := [(Str.ofString "a", Value.int a t), (Str.ofString "b", Value.int b t')]) ?c1 ?c2 ?c3 ?c4 ?c5 ?cA ?cF ?cK ?c6 ?c7 ?c8 ?c9 ?cB ?_ ?d2 ?d3 ?d4 ?d5
  case cA => exact rfl
  case cF => exact rfl
  case cK => assumption
  case c1 => k_asm
  case c2 => k_asm
  case c3 => k_asm
  case c4 => k_asm
  case c5 => k_asm
  case c6 => k_dflt k_is
  case c7 => k_dflt k_is
  case c8 => ktr_room
  case c9 => exact BindsTo.of_eq (by kernel_rfl)
  case d5 => decide
  case cB => exact locs rfl
  case d2 => exact rfl
  case d3 => exact rfl
  case d4 => exact rfl
  intro g0 L0 h0' FG0 F0 N0 B0 X0 T0
  simp only [List.reverse_cons, List.reverse_nil, List.nil_append] at F0
  k_fold
  k_steps
  exact hret _ _ _ _ (by assumption) (by assumption) ⟨⟨_, rfl⟩, rfl⟩
theorem con_isNT (a : Int) (t : Tok) : Con w mean mg mb 173 9 50 news [.int a t] (fun r nx => r = .bool (decide (a ≥ 256)) ∧ nx = news) := by
  unfold Con
  w_top off
  k_fill
  intro dp un gd cn cs a' ccd cl outer A₀ base h₀ L m s Q E B F X N Tp hk hd hu hret
  refine wpAny_call ?_
  refine' code_def (binds := [(Str.ofString "x", Value.int a t)]) ?c1 ?c2 ?c3 ?c4 ?c5 ?cA ?cF ?cK ?c6 ?c7 ?c8 ?c9 ?cB ?_ ?d2 ?d3 ?d4 ?d5
  case cA => exact rfl
  case cF => exact rfl
  case cK => assumption
  case c1 => k_asm
  case c2 => k_asm
  case c3 => k_asm
  case c4 => k_asm
  case c5 => k_asm
  case c6 => k_dflt k_is
  case c7 => k_dflt k_is
  case c8 => ktr_room
  case c9 => exact BindsTo.of_eq (by kernel_rfl)
  case d5 => decide
  case cB => exact locs rfl
  case d2 => exact rfl
  case d3 => exact rfl
  case d4 => exact rfl
  intro g0 L0 h0' FG0 F0 N0 B0 X0 T0
  simp only [List.reverse_cons, List.reverse_nil, List.nil_append] at F0
  k_fold
  k_steps
  exact hret _ _ _ _ (by assumption) (by assumption) ⟨rfl, rfl⟩
theorem con_isEOF (a : Int) (t : Tok) : Con w mean mg mb 180 9 50 news [.int a t] (fun r nx => r = .bool (decide (a = 0)) ∧ nx = news) := by
  unfold Con
  w_top off
  k_fill
  intro dp un gd cn cs a' ccd cl outer A₀ base h₀ L m s Q E B F X N Tp hk hd hu hret
  refine wpAny_call ?_
  refine' code_def (binds := [(Str.ofString "x", Value.int a t)]) ?c1 ?c2 ?c3 ?c4 ?c5 ?cA ?cF ?cK ?c6 ?c7 ?c8 ?c9 ?cB ?_ ?d2 ?d3 ?d4 ?d5
  case cA => exact rfl
  case cF => exact rfl
  case cK => assumption
  case c1 => k_asm
  case c2 => k_asm
  case c3 => k_asm
  case c4 => k_asm
  case c5 => k_asm
  case c6 => k_dflt k_is
  case c7 => k_dflt k_is
  case c8 => ktr_room
  case c9 => exact BindsTo.of_eq (by kernel_rfl)
  case d5 => decide
  case cB => exact locs rfl
  case d2 => exact rfl
  case d3 => exact rfl
  case d4 => exact rfl
  intro g0 L0 h0' FG0 F0 N0 B0 X0 T0
  simp only [List.reverse_cons, List.reverse_nil, List.nil_append] at F0
  k_fold
  k_steps
  exact hret _ _ _ _ (by assumption) (by assumption) ⟨rfl, rfl⟩
theorem con_contains {M : Addr} {vs : List Value} {ns : List Int} {n : Nat} (hM : (M, listOf vs.toArray n) ∈ news) (hi : IntsAre vs ns) (a : Int) (t : Tok) : Con w mean mg mb 56 9 50 news [.ref M, .int a t] (fun r nx => r = .bool (ns.any (· == a)) ∧ nx = news) := by
  unfold Con
  w_top off
  k_fill
  intro dp un gd cn cs a' ccd cl outer A₀ base h₀ L m s Q E B F X N Tp hk hd hu hret
  refine wpAny_call ?_
  refine' code_def (binds := [(Str.ofString "a", Value.ref M), (Str.ofString "b", Value.int a t)]) ?c1 ?c2 ?c3 ?c4 ?c5 ?cA ?cF ?cK ?c6 ?c7 ?c8 ?c9 ?cB ?_ ?d2 ?d3 ?d4 ?d5
  case cA => exact rfl
  case cF => exact rfl
  case cK => assumption
  case c1 => k_asm
  case c2 => k_asm
  case c3 => k_asm
  case c4 => k_asm
  case c5 => k_asm
  case c6 => k_dflt k_is
  case c7 => k_dflt k_is
  case c8 => ktr_room
  case c9 => exact BindsTo.of_eq (by kernel_rfl)
  case d5 => decide
  case cB => exact locs rfl
  case d2 => exact rfl
  case d3 => exact rfl
  case d4 => exact rfl
  intro g0 L0 h0' FG0 F0 N0 B0 X0 T0
  simp only [List.reverse_cons, List.reverse_nil, List.nil_append] at F0
  k_fold
  k_steps
  exact hret _ _ _ _ (by assumption) (by assumption) ⟨rfl, rfl⟩
theorem con_getL {M : Addr} {vs : List Value} {ns : List Int} {n : Nat} (hM : (M, listOf vs.toArray n) ∈ news) (hi : IntsAre vs ns) (a : Nat) (t : Tok) (ha : a < ns.length) (hl : ns.length ≤ 60) : Con w mean mg mb 63 9 50 news [.ref M, .int a t] (fun r nx => (∃ k, r = .int (ns.getD a 0) k) ∧ nx = news) := by
  unfold Con
  w_top off
  k_fill
  intro dp un gd cn cs a' ccd cl outer A₀ base h₀ L m s Q E B F X N Tp hk hd hu hret
  refine wpAny_call ?_
  refine' code_def (binds := [(Str.ofString "a", Value.ref M), (Str.ofString "b", Value.int a t)]) ?c1 ?c2 ?c3 ?c4 ?c5 ?cA ?cF ?cK ?c6 ?c7 ?c8 ?c9 ?cB ?_ ?d2 ?d3 ?d4 ?d5
  case cA => exact rfl
  case cF => exact rfl
  case cK => assumption
  case c1 => k_asm
  case c2 => k_asm
  case c3 => k_asm
  case c4 => k_asm
  case c5 => k_asm
  case c6 => k_dflt k_is
  case c7 => k_dflt k_is
  case c8 => ktr_room
  case c9 => exact BindsTo.of_eq (by kernel_rfl)
  case d5 => decide
  case cB => exact locs rfl
  case d2 => exact rfl
  case d3 => exact rfl
  case d4 => exact rfl
  intro g0 L0 h0' FG0 F0 N0 B0 X0 T0
  simp only [List.reverse_cons, List.reverse_nil, List.nil_append] at F0
  k_fold
  k_steps
  exact hret _ _ _ _ (by assumption) (by assumption) ⟨⟨_, rfl⟩, rfl⟩
theorem con_getD {M : Addr} {o : Obj} {c : List (Int × Int)} (hM : (M, o) ∈ news) (hD : IntDict w o c) (hs : (M == sysModules) = false) (a : Int) (t : Tok) (ha : kdfHas c a = true) : Con w mean mg mb 63 9 50 news [.ref M, .int a t] (fun r nx => (∃ k, r = .int (kdfLook c a 0) k) ∧ nx = news) := by
  unfold Con
  w_top off
  k_fill
  obtain ⟨kvs, d1, d2⟩ := hD
  intro dp un gd cn cs a' ccd cl outer A₀ base h₀ L m s Q E B F X N Tp hk hd hu hret
  refine wpAny_call ?_
  refine' code_def (binds := [(Str.ofString "a", Value.ref M), (Str.ofString "b", Value.int a t)]) ?c1 ?c2 ?c3 ?c4 ?c5 ?cA ?cF ?cK ?c6 ?c7 ?c8 ?c9 ?cB ?_ ?d2 ?d3 ?d4 ?d5
  case cA => exact rfl
  case cF => exact rfl
  case cK => assumption
  case c1 => k_asm
  case c2 => k_asm
  case c3 => k_asm
  case c4 => k_asm
  case c5 => k_asm
  case c6 => k_dflt k_is
  case c7 => k_dflt k_is
  case c8 => ktr_room
  case c9 => exact BindsTo.of_eq (by kernel_rfl)
  case d5 => decide
  case cB => exact locs rfl
  case d2 => exact rfl
  case d3 => exact rfl
  case d4 => exact rfl
  intro g0 L0 h0' FG0 F0 N0 B0 X0 T0
  simp only [List.reverse_cons, List.reverse_nil, List.nil_append] at F0
  k_fold
  k_steps
  exact hret _ _ _ _ (by assumption) (by assumption) ⟨⟨_, rfl⟩, rfl⟩
theorem con_setL {M : Addr} {vs : List Value} {ns : List Int} {n i : Nat} {news' : List (Addr × Obj)} (x : Int) (tx : Tok) (hU : Upd M (listOf vs.toArray n) (listOf (vs.set i (.int x tx)).toArray n) news news') (hi : IntsAre vs ns) (t : Tok) (ha : i < ns.length) (hl : ns.length ≤ 60) :
    Con w mean mg mb 70 9 50 news [.ref M, .int (i : Nat) t, .int x tx] (fun r nx => r = .none ∧ nx = news') := by
  unfold Con
  w_top off
  k_fill
  intro dp un gd cn cs a' ccd cl outer A₀ base h₀ L m s Q E B F X N Tp hk hd hu hret
  refine wpAny_call ?_
  refine' code_def (binds := [(Str.ofString "a", Value.ref M), (Str.ofString "b", Value.int (i : Nat) t), (Str.ofString "c", Value.int x tx)]) ?c1 ?c2 ?c3 ?c4 ?c5 ?cA ?cF ?cK ?c6 ?c7 ?c8 ?c9 ?cB ?_ ?d2 ?d3 ?d4 ?d5
  case cA => exact rfl
  case cF => exact rfl
  case cK => assumption
  case c1 => k_asm
  case c2 => k_asm
  case c3 => k_asm
  case c4 => k_asm
  case c5 => k_asm
  case c6 => k_dflt k_is
  case c7 => k_dflt k_is
  case c8 => ktr_room
  case c9 => exact BindsTo.of_eq (by kernel_rfl)
  case d5 => decide
  case cB => exact locs rfl
  case d2 => exact rfl
  case d3 => exact rfl
  case d4 => exact rfl
  intro g0 L0 h0' FG0 F0 N0 B0 X0 T0
  simp only [List.reverse_cons, List.reverse_nil, List.nil_append] at F0
  k_fold
  k_steps
  exact hret _ _ _ _ (by assumption) (by assumption) ⟨rfl, rfl⟩
theorem con_xorN (a b : Nat) (t t' : Tok) : Con w mean mg mb 49 9 50 news [.int a t, .int b t'] (fun r nx => (∃ k, r = .int ((a ^^^ b : Nat) : Int) k) ∧ nx = news) := by
  have h := con_xor (w := w) (mean := mean) (mg := mg) (mb := mb) (news := news) (a : Int) (b : Int) t t'
  rw [bitXor_nat] at h
  exact h
theorem con_sub256 (a : Nat) (t t' : Tok) : Con w mean mg mb 42 9 50 news [.int ((256 + a : Nat) : Int) t, .int 256 t'] (fun r nx => (∃ k, r = .int (a : Int) k) ∧ nx = news) := by
  have h := con_sub (w := w) (mean := mean) (mg := mg) (mb := mb) (news := news) ((256 + a : Nat) : Int) 256 t t'
  rw [show ((256 + a : Nat) : Int) - 256 = (a : Int) by omega] at h
  exact h
theorem con_setD {M : Addr} {o : Obj} {c : List (Int × Int)} {u : Obj → List (Addr × Obj)} (hU : UpdF M o news u) (hD : IntDict w o c) (hs : (M == sysModules) = false) (a : Int) (t : Tok) (hl : c.length ≤ 60) (x : Int) (tx : Tok) :
    Con w mean mg mb 70 9 50 news [.ref M, .int a t, .int x tx] (fun r nx => r = .none ∧ ∃ o', nx = u o' ∧ IntDict w o' (kdfPut c a x)) := by
  unfold Con
  w_top off
  k_fill
  obtain ⟨kvs, d1, d2⟩ := hD
  intro dp un gd cn cs a' ccd cl outer A₀ base h₀ L m s Q E B F X N Tp hk hd hu hret
  refine wpAny_call ?_
  refine' code_def (binds := [(Str.ofString "a", Value.ref M), (Str.ofString "b", Value.int a t), (Str.ofString "c", Value.int x tx)]) ?c1 ?c2 ?c3 ?c4 ?c5 ?cA ?cF ?cK ?c6 ?c7 ?c8 ?c9 ?cB ?_ ?d2 ?d3 ?d4 ?d5
  case cA => exact rfl
  case cF => exact rfl
  case cK => assumption
  case c1 => k_asm
  case c2 => k_asm
  case c3 => k_asm
  case c4 => k_asm
  case c5 => k_asm
  case c6 => k_dflt k_is
  case c7 => k_dflt k_is
  case c8 => ktr_room
  case c9 => exact BindsTo.of_eq (by kernel_rfl)
  case d5 => decide
  case cB => exact locs rfl
  case d2 => exact rfl
  case d3 => exact rfl
  case d4 => exact rfl
  intro g0 L0 h0' FG0 F0 N0 B0 X0 T0
  simp only [List.reverse_cons, List.reverse_nil, List.nil_append] at F0
  k_fold
  k_steps
  exact hret _ _ _ _ (by assumption) (by assumption) ⟨rfl, _, rfl, _, by assumption, by assumption⟩
end
end
section
local macro_rules | `(tactic| walk_at "no such tree 0") => `(tactic| skip)
abbrev lineEs (P : Params) (t0 t1 t2 t3 t4 t5 t6 : Tok) (pb : Addr) : List DictEntry := [⟨PyData.keyHash P (Str.ofString "lineno"), .str (Str.ofString "lineno") t0, .int 1 t1⟩, ⟨PyData.keyHash P (Str.ofString "instream"), .str (Str.ofString "instream") t2, .str (Str.ofString "") t3⟩, ⟨PyData.keyHash P (Str.ofString "whitespace"), .str (Str.ofString "whitespace") t4, .str (Str.ofString "\n\t\r ") t5⟩, ⟨PyData.keyHash P (Str.ofString "pushback"), .str (Str.ofString "pushback") t6, .ref pb⟩]
section
variable {w : World} {mean : ExcName → Option Value} {mg mb : Str → Option Value} {news : List (Addr × Obj)}
theorem con_line (S : Addr) (oS : Obj) (a1 : Addr) (o1 : Obj) (t : Tok) : Con w mean mg mb 159 20 100 [(S, oS), (a1, o1)] [.str (Str.ofString "") t] (fun r nx => ∃ x d pb t0 t1 t2 t3 t4 t5 t6, r = .ref x ∧ nx = [(pb, listOf #[] 0), (x, instObj 159 d), (d, dictOf (lineEs w.params t0 t1 t2 t3 t4 t5 t6 pb) 4), (S, oS), (a1, o1)] ∧ x < pb ∧ d < x ∧ S < d ∧ a1 < d) := by
  unfold Con
  w_top off
  k_fill
  intro dp un gd cn cs a' ccd cl outer A₀ base h₀ L m s Q E B F X N Tp hk hd hu hret
  k_dflt (refine' call_cls ?u1 ?u2 ?u3 ?u4 ?u5 ?u6 ?_)
  case u1 => k_asm
  case u2 => k_asm
  case u3 => k_asm
  case u4 => k_is
  case u5 => k_is
  case u6 => k_is
  intro x dx h1 F1 N1 l1 l2
  k_lt l1
  k_lt2 l2
  refine' code_def (binds := [(Str.ofString "self", Value.ref x), (Str.ofString "fp", Value.str (Str.ofString "") t)]) ?v1 ?v2 ?v3 ?v4 ?v5 ?vA ?vF ?vK ?v6 ?v7 ?v8 ?v9 ?vB ?_ ?y2 ?y3 ?y4 ?y5
  case vA => exact rfl
  case vF => exact rfl
  case vK => assumption
  case v1 => k_asm
  case v2 => k_asm
  case v3 => k_asm
  case v4 => k_asm
  case v5 => k_asm
  case v6 => k_dflt k_is
  case v7 => k_dflt k_is
  case v8 => ktr_room
  case v9 => exact BindsTo.of_eq (by kernel_rfl)
  case y5 => decide
  case vB => exact locs rfl
  case y2 => exact rfl
  case y3 => exact rfl
  case y4 => exact rfl
  intro g0 L0 h0' FG0 F0 N0 B0 X0 T0
  simp only [List.reverse_cons, List.reverse_nil, List.nil_append] at F0
  k_fold
  k_steps
  rename News h₀ L _ _ => lN
  obtain ⟨pb, rfl⟩ := nm1 lN
  rename x < pb ∧ _ => lp
  exact hret _ _ _ _ (by assumption) lN ⟨x, dx, pb, _, _, _, _, _, _, _, rfl, rfl, lp.1, l2, l1⟩
theorem truthy_cons {prog : Program} {w : World} {A : Around} {E : Value → Shared → Prop} {s : Shared} {l : Addr} {v : Value} {vs : List Value} {Q : Bool → Shared → Prop} (hl : s.heap.IsList l (v :: vs).toArray) (hz : vs.length ≤ 60)
    (h : Q true { s with toks := s.toks + 1 + 1 }) : wpAny (model prog w) A (truthy (.ref l)) Q E s :=
  wpAny_truthy_list hl (by rw [List.size_toArray, List.length_cons]; omega) (by
    have e : (!(v :: vs).toArray.isEmpty) = true := by simp
    rw [e]; exact h)
theorem seq0 (v : Value) (vs : List Value) : PySem.seqIndex? 0 (v :: vs).toArray.size = some 0 := by
  rw [List.size_toArray, List.length_cons]
  unfold PySem.seqIndex?
  simp
local macro_rules | `(tactic| walk_at "truthy ref") => `(tactic| (k_here; k_dflt (refine truthy_cons (News.isList (by k_asm) (by k_mem)) (by assumption) ?_)))
theorem pop_front {prog : Program} {w : World} {A : Around} {E : Value → Shared → Prop} {s : Shared} {h₀ : Heap} {L D : Addr} {m : Str → Option Value} {news news' : List (Addr × Obj)} {vs : List Value} {y : Value} {n : Nat} {u : Tok} {Q : Value → Shared → Prop} (F : Fr h₀ L s.heap m) (N : News h₀ L s.heap news)
    (U : Upd D (listOf (y :: vs).toArray n) (listOf vs.toArray (n + 1)) news news') (hz : vs.length ≤ 60) (h : ∀ h', Fr h₀ L h' m → News h₀ L h' news' → Q y { s with heap := h' }) : wpAny (model prog w) A (call (.builtin "list.pop") [.ref D, .int 0 u]) Q E s :=
  kl_popAt (p := []) (q := vs) F N rfl (seq0 y vs) rfl U (by show List.length (y :: vs) ≤ _; rw [List.length_cons, sizeLine_eq]; omega) h
local macro_rules | `(tactic| walk_at "call builtin:list.pop") => `(tactic| (k_here; k_dflt (refine' pop_front ?F ?N ?U ?z ?_; (case F => k_asm); (case N => k_asm); (case U => k_upd); (case z => assumption)); intro h' F' N'))
local macro_rules | `(tactic| k_upd) => `(tactic| assumption)
local macro_rules | `(tactic| k_mem) => `(tactic| assumption)
theorem con_push {x d pb : Addr} {t0 t1 t2 t3 t4 t5 t6 : Tok} {vs : List Value} {n : Nat} {news' : List (Addr × Obj)} (v : Int) (tv : Tok) (hx : (x, instObj 159 d) ∈ news) (hd' : (d, dictOf (lineEs w.params t0 t1 t2 t3 t4 t5 t6 pb) 4) ∈ news)
    (hp : (pb, listOf vs.toArray n) ∈ news) (hU : Upd pb (listOf vs.toArray n) (listOf (vs.toArray.push (.int v tv)) (n + 1)) news news') (hz : vs.length ≤ 60) : Con w mean mg mb 156 9 50 news [.ref x, .int v tv] (fun r nx => r = .none ∧ nx = news') := by
  unfold Con
  w_top off
  k_fill
  intro dp un gd cn cs a' ccd cl outer A₀ base h₀ L m s Q E B F X N Tp hk hd hu hret
  refine wpAny_call ?_
  refine' code_def (binds := [(Str.ofString "self", Value.ref x), (Str.ofString "token", Value.int v tv)]) ?c1 ?c2 ?c3 ?c4 ?c5 ?cA ?cF ?cK ?c6 ?c7 ?c8 ?c9 ?cB ?_ ?d2 ?d3 ?d4 ?d5
  case cA => exact rfl
  case cF => exact rfl
  case cK => assumption
  case c1 => k_asm
  case c2 => k_asm
  case c3 => k_asm
  case c4 => k_asm
  case c5 => k_asm
  case c6 => k_dflt k_is
  case c7 => k_dflt k_is
  case c8 => ktr_room
  case c9 => exact BindsTo.of_eq (by kernel_rfl)
  case d5 => decide
  case cB => exact locs rfl
  case d2 => exact rfl
  case d3 => exact rfl
  case d4 => exact rfl
  intro g0 L0 h0' FG0 F0 N0 B0 X0 T0
  simp only [List.reverse_cons, List.reverse_nil, List.nil_append] at F0
  k_fold
  k_steps
  exact hret _ _ _ _ (by assumption) (by assumption) ⟨rfl, rfl⟩
theorem con_tok {x d pb : Addr} {t0 t1 t2 t3 t4 t5 t6 : Tok} {vs : List Value} {n : Nat} {news' : List (Addr × Obj)} (v : Int) (tv : Tok) (hx : (x, instObj 159 d) ∈ news) (hd' : (d, dictOf (lineEs w.params t0 t1 t2 t3 t4 t5 t6 pb) 4) ∈ news)
    (hp : (pb, listOf (Value.int v tv :: vs).toArray n) ∈ news) (hU : Upd pb (listOf (Value.int v tv :: vs).toArray n) (listOf vs.toArray (n + 1)) news news') (hz : vs.length ≤ 60) : Con w mean mg mb 149 9 50 news [.ref x] (fun r nx => r = .int v tv ∧ nx = news') := by
  unfold Con
  w_top off
  k_fill
  intro dp un gd cn cs a' ccd cl outer A₀ base h₀ L m s Q E B F X N Tp hk hd hu hret
  refine wpAny_call ?_
  refine' code_def (binds := [(Str.ofString "self", Value.ref x)]) ?c1 ?c2 ?c3 ?c4 ?c5 ?cA ?cF ?cK ?c6 ?c7 ?c8 ?c9 ?cB ?_ ?d2 ?d3 ?d4 ?d5
  case cA => exact rfl
  case cF => exact rfl
  case cK => assumption
  case c1 => k_asm
  case c2 => k_asm
  case c3 => k_asm
  case c4 => k_asm
  case c5 => k_asm
  case c6 => k_dflt k_is
  case c7 => k_dflt k_is
  case c8 => ktr_room
  case c9 => exact BindsTo.of_eq (by kernel_rfl)
  case d5 => decide
  case cB => exact locs rfl
  case d2 => exact rfl
  case d3 => exact rfl
  case d4 => exact rfl
  intro g0 L0 h0' FG0 F0 N0 B0 X0 T0
  simp only [List.reverse_cons, List.reverse_nil, List.nil_append] at F0
  k_fold
  k_steps
  exact hret _ _ _ _ (by assumption) (by assumption) ⟨rfl, rfl⟩
end
end
section
section
variable {w : World} {mean : ExcName → Option Value} {mg mb : Str → Option Value} {news : List (Addr × Obj)}
theorem con_lshift (k : Nat) (t t' : Tok) (hk4 : k < 4) : Con w mean mg mb 35 9 50 news [.int 1 t, .int (k : Int) t'] (fun r nx => (∃ u, r = .int ((2 ^ k : Nat) : Int) u) ∧ nx = news) := by
  unfold Con
  w_top off
  k_fill
  intro dp un gd cn cs a' ccd cl outer A₀ base h₀ L m s Q E B F X N Tp hk hd hu hret
  refine wpAny_call ?_
  refine' code_def (binds := [(Str.ofString "a", Value.int 1 t), (Str.ofString "b", Value.int (k : Int) t')]) ?c1 ?c2 ?c3 ?c4 ?c5 ?cA ?cF ?cK ?c6 ?c7 ?c8 ?c9 ?cB ?_ ?d2 ?d3 ?d4 ?d5
  case cA => exact rfl
  case cF => exact rfl
  case cK => assumption
  case c1 => k_asm
  case c2 => k_asm
  case c3 => k_asm
  case c4 => k_asm
  case c5 => k_asm
  case c6 => k_dflt k_is
  case c7 => k_dflt k_is
  case c8 => ktr_room
  case c9 => exact BindsTo.of_eq (by kernel_rfl)
  case d5 => decide
  case cB => exact locs rfl
  case d2 => exact rfl
  case d3 => exact rfl
  case d4 => exact rfl
  intro g0 L0 h0' FG0 F0 N0 B0 X0 T0
  simp only [List.reverse_cons, List.reverse_nil, List.nil_append] at F0
  k_fold
  k_steps
  rw [show (1 : Int) * 2 ^ ((k : Int)).toNat = ((2 ^ k : Nat) : Int) by rw [Int.toNat_natCast, Int.one_mul]; push_cast; rfl]
  exact hret _ _ _ _ (by assumption) (by assumption) ⟨⟨_, rfl⟩, rfl⟩
theorem con_subN (a k : Nat) (t t' : Tok) : Con w mean mg mb 42 9 50 news [.int ((a + k : Nat) : Int) t, .int (a : Int) t'] (fun r nx => (∃ u, r = .int (k : Int) u) ∧ nx = news) := by
  have h := con_sub (w := w) (mean := mean) (mg := mg) (mb := mb) (news := news) ((a + k : Nat) : Int) (a : Int) t t'
  rw [show ((a + k : Nat) : Int) - (a : Int) = (k : Int) by omega] at h
  exact h
end
end
section
def quoGo : List Nat → List Nat
  | [] => []
  | c :: r => if c = 34 then (match r with | d :: r' => if d = 34 then 34 :: quoGo r' else [] | [] => []) else c :: quoGo r
theorem quot_is : Str.ofString "\"" = ⟨#[34]⟩ := by decide
theorem drop_some {x : Str} {i : Nat} (h : i < x.length) : ∃ c r, x.cps.toList.drop i = c :: r ∧ x.cps.toList.drop (i + 1) = r ∧ Txt.item x (i : Int) = ⟨#[c]⟩ := by
  have hl : i < x.cps.toList.length := by rw [Array.length_toList]; exact h
  refine ⟨x.cps.toList[i], x.cps.toList.drop (i + 1), List.drop_eq_getElem_cons hl, rfl, ?_⟩
  exact item_meets (Int.natCast_nonneg i) (by
    rw [Int.toNat_natCast, ← Array.getElem?_toList]
    exact List.getElem?_eq_getElem hl)
theorem drop_none {x : Str} {i : Nat} (h : x.length ≤ i) : x.cps.toList.drop i = [] := List.drop_of_length_le (by rw [Array.length_toList]; exact h)
theorem quo_close (r : List Nat) (h : ∀ d r', r = d :: r' → d ≠ 34) : quoGo (34 :: r) = [] := by
  unfold quoGo
  rw [if_pos rfl]
  cases r with
  | nil => rfl
  | cons d r' => exact if_neg (h d r' rfl)
theorem quo_two (r : List Nat) : quoGo (34 :: 34 :: r) = 34 :: quoGo r := by
  conv => lhs; unfold quoGo
  rfl
theorem quo_one {c : Nat} (r : List Nat) (h : c ≠ 34) : quoGo (c :: r) = c :: quoGo r := by
  conv => lhs; unfold quoGo
  exact if_neg h
theorem str_of_list {y : Str} {l : List Nat} (h : y.cps.toList = l) : y = ⟨l.toArray⟩ := by
  obtain ⟨a⟩ := y
  subst h
  rfl
theorem one_eq (c : Nat) : ((⟨#[c]⟩ : Str) == Str.ofString "\"") = decide (c = 34) := by
  rw [quot_is]
  by_cases h : c = 34
  · subst h; decide
  · rw [decide_eq_false h, beq_eq_false_iff_ne]
    intro e
    injection e with e
    exact h (by simpa using e)
theorem con_p257 {w : World} {mean : ExcName → Option Value} {mg mb : Str → Option Value} {news : List (Addr × Obj)} (x : Str) (t : Tok) (hx : x.length ≤ 200) (hs1 : (Txt.slice x none (some 3) != Str.ofString "257") = false) (hs2 : (Txt.slice x (some 3) (some 5) != Str.ofString " \"") = false) (hx5 : 5 ≤ x.length) :
    Con w mean mg mb 121 20 100 news [.str x t] (fun r nx => (∃ k, r = .str ⟨(quoGo (x.cps.toList.drop 5)).toArray⟩ k) ∧ nx = news) := by
  unfold Con
  w_top off
  k_fill
  intro dp un gd cn cs a ccd cl outer A₀ base h₀ L m s Q E B F X N Tp hk hd hu hret
  refine wpAny_call ?_
  refine' code_def (binds := [(Str.ofString "resp", Value.str x t)]) ?c1 ?c2 ?c3 ?c4 ?c5 ?cA ?cF ?cK ?c6 ?c7 ?c8 ?c9 ?cB ?_ ?d2 ?d3 ?d4 ?d5
  case cA => exact rfl
  case cF => exact rfl
  case cK => assumption
  case c1 => k_asm
  case c2 => k_asm
  case c3 => k_asm
  case c4 => k_asm
  case c5 => k_asm
  case c6 => k_dflt k_is
  case c7 => k_dflt k_is
  case c8 => ktr_room
  case c9 => exact BindsTo.of_eq (by kernel_rfl)
  case d5 => decide
  case cB => exact locs rfl
  case d2 => exact rfl
  case d3 => exact rfl
  case d4 => exact rfl
  intro g0 L0 h0' FG0 F0 N0 B0 X0 T0
  simp only [List.reverse_cons, List.reverse_nil, List.nil_append] at F0
  k_fold
  k_steps
  refine ⟨?_⟩
  rename Fr _ _ _ _ => lF
  rename News _ _ _ _ => lN
  refine ksw_while (σ := (Nat × Tok) × (Str × Tok)) (fun _ => news) (fun c => [(Str.ofString "i", Value.int (c.1.1 : Int) c.1.2), (Str.ofString "dirname", Value.str c.2.1 c.2.2)]) (fun _ => True) [Str.ofString "c"]
    (fun c => c.1.1 ≤ x.length ∧ c.2.1.length ≤ c.1.1 ∧ c.2.1.cps.toList ++ quoGo (x.cps.toList.drop c.1.1) = quoGo (x.cps.toList.drop 5)) (fun c => x.length - c.1.1) ((5, _), (Str.ofString "", _))
    lF lN trivial (by kst_all) ⟨hx5, by show (0 : Nat) ≤ 5; omega, rfl⟩ ?_
  rintro ⟨⟨i, ti⟩, ⟨dn, td⟩⟩ u h tk hfa hinv Fx Nx
  dsimp only [kstB] at Fx
  dsimp only at hinv Nx
  obtain ⟨hi1, hi2, hi3⟩ := hinv
  generalize hP : KswPost _ _ _ _ _ _ _ _ _ _ _ _ = P
  k_steps
  · show P Flow.brk _
    subst hP
    rename (Txt.item x i == _) = true => hc
    rename _ ≥ (x.length : Int) => hge
    obtain ⟨c, r, e1, e2, e3⟩ := drop_some (x := x) (i := i) (by omega)
    rw [e3, one_eq, decide_eq_true_eq] at hc
    subst hc
    rw [e1, quo_close r (fun d r' e => by
      rw [drop_none (by omega)] at e2; rw [← e2] at e; cases e), List.append_nil] at hi3
    dsimp only [KswPost]
    k_steps
    exact hret _ _ _ _ (by assumption) (by assumption) ⟨⟨_, by rw [str_of_list hi3]⟩, rfl⟩
  · show P Flow.brk _
    subst hP
    rename (Txt.item x i == _) = true => hc
    rename (Txt.item x ((i : Int) + 1) != _) = true => hc2
    rename ¬ _ ≥ (x.length : Int) => hge
    obtain ⟨c, r, e1, e2, e3⟩ := drop_some (x := x) (i := i) (by omega)
    obtain ⟨c2, r2, f1, f2, f3⟩ := drop_some (x := x) (i := i + 1) (by omega)
    rw [e3, one_eq, decide_eq_true_eq] at hc
    subst hc
    rw [show ((i : Int) + 1) = ((i + 1 : Nat) : Int) from rfl, f3, bne, one_eq, Bool.not_eq_true', decide_eq_false_iff_not] at hc2
    rw [e1, quo_close r (fun d r' e => by
      rw [f1] at e2; rw [← e2] at e; injection e with e _; rw [← e]; exact hc2), List.append_nil] at hi3
    dsimp only [KswPost]
    k_steps
    exact hret _ _ _ _ (by assumption) (by assumption) ⟨⟨_, by rw [str_of_list hi3]⟩, rfl⟩
  · subst hP
    rename (Txt.item x i == _) = true => hc
    rename (Txt.item x ((i : Int) + 1) != _) = false => hc2
    rename ¬ _ ≥ (x.length : Int) => hge
    obtain ⟨c, r, e1, e2, e3⟩ := drop_some (x := x) (i := i) (by omega)
    obtain ⟨c2, r2, f1, f2, f3⟩ := drop_some (x := x) (i := i + 1) (by omega)
    have hlen : (dn ++ Txt.item x (i : Int)).length ≤ i + 1 := by rw [Str.length_append, e3]; show dn.length + 1 ≤ _; omega
    rw [show ((i : Int) + 1) = ((i + 1 : Nat) : Int) from rfl, f3, bne, one_eq, Bool.not_eq_false', decide_eq_true_eq] at hc2
    subst hc2
    refine ksw_end (σ := (Nat × Tok) × (Str × Tok)) ((i + 1 + 1, _), (dn ++ Txt.item x (i : Int), _)) (by assumption) (by assumption) (fun _ hp => hp) trivial (by kst_all) (by ksw_same) ⟨by show i + 1 + 1 ≤ _; omega, Nat.le_succ_of_le hlen, ?_⟩ (by show x.length - (i + 1 + 1) < x.length - i; omega)
    show (dn ++ Txt.item x (i : Int)).cps.toList ++ quoGo (x.cps.toList.drop (i + 1 + 1)) = _
    rw [e3, one_eq, decide_eq_true_eq] at hc
    subst hc
    rw [← hi3, e3, Str.cps_append, Array.toList_append, e1, ← e2, f1, quo_two, ← f2, List.append_assoc]
    rfl
  · subst hP
    rename (Txt.item x i == _) = false => hc
    obtain ⟨c, r, e1, e2, e3⟩ := drop_some (x := x) (i := i) (by omega)
    have hlen : (dn ++ Txt.item x (i : Int)).length ≤ i + 1 := by rw [Str.length_append, e3]; show dn.length + 1 ≤ _; omega
    refine ksw_end (σ := (Nat × Tok) × (Str × Tok)) ((i + 1, _), (dn ++ Txt.item x (i : Int), _)) (by assumption) (by assumption) (fun _ hp => hp) trivial (by kst_all) (by ksw_same) ⟨by show i + 1 ≤ _; omega, hlen, ?_⟩ (by show x.length - (i + 1) < x.length - i; omega)
    show (dn ++ Txt.item x (i : Int)).cps.toList ++ quoGo (x.cps.toList.drop (i + 1)) = _
    rw [e3, one_eq, decide_eq_false_iff_not] at hc
    rw [← hi3, e3, Str.cps_append, Array.toList_append, e1, ← e2, quo_one _ hc, List.append_assoc]
    rfl
  · rename ¬ (i : Int) < _ => hge
    rw [drop_none (by omega)] at hi3
    have hi4 : dn.cps.toList = quoGo (x.cps.toList.drop 5) := by rw [← hi3]; show _ = _ ++ []; rw [List.append_nil]
    exact hret _ _ _ _ (by assumption) (by assumption) ⟨⟨_, by rw [str_of_list hi4]⟩, rfl⟩
end
section
theorem con_p229 {w : World} {mean : ExcName → Option Value} {mg mb : Str → Option Value} {pe : Addr} {th tp : Tok} {a1 a2 : Addr} {o1 o2 : Obj} (x : Str) (t : Tok) (hx : x.length ≤ 200) (hs1 : (Txt.slice x none (some 3) != Str.ofString "229") = false) (hF : Txt.find x (Str.ofString "(") = 11) (hR1 : 12 < Txt.find3 x (Str.ofString ")") (Txt.find x (Str.ofString "(") + 1)) (hR2 : Txt.find3 x (Str.ofString ")") (Txt.find x (Str.ofString "(") + 1) < x.length) (hIt : (Txt.item x (Txt.find x (Str.ofString "(") + 1) != Txt.item x (Txt.find3 x (Str.ofString ")") (Txt.find x (Str.ofString "(") + 1) - 1)) = false) {p0 p1 p2 p3 p4 : Str} {low : Int} (hSp : Txt.split (Txt.slice x (some (Txt.find x (Str.ofString "(") + 1)) (some (Txt.find3 x (Str.ofString ")") (Txt.find x (Str.ofString "(") + 1)))) (Txt.item x (Txt.find x (Str.ofString "(") + 1)) = [p0, p1, p2, p3, p4]) (hIn : PySem.intText? p3 = some low) (hIl : p3.length ≤ 640) :
    Con w mean mg mb 114 20 100 [(pe, { cls := .type "tuple", data := .seq #[.str (Str.ofString "here") th, .int 21 tp] }), (a1, o1), (a2, o2)] [.str x t, .ref pe] (fun r nx => ∃ B tk, r = .ref B ∧ nx = [(B, { cls := .type "tuple", data := .seq #[.str (Str.ofString "here") th, .int low tk] }), (a1, o1), (a2, o2)] ∧ a1 < B ∧ a2 < B) := by
  unfold Con
  w_top off
  k_fill
  intro dp un gd cn cs a ccd cl outer A₀ base h₀ L m s Q E B F X N Tp hk hd hu hret
  refine wpAny_call ?_
  refine' code_def (binds := [(Str.ofString "resp", Value.str x t), (Str.ofString "peer", Value.ref pe)]) ?c1 ?c2 ?c3 ?c4 ?c5 ?cA ?cF ?cK ?c6 ?c7 ?c8 ?c9 ?cB ?_ ?d2 ?d3 ?d4 ?d5
  case cA => exact rfl
  case cF => exact rfl
  case cK => assumption
  case c1 => k_asm
  case c2 => k_asm
  case c3 => k_asm
  case c4 => k_asm
  case c5 => k_asm
  case c6 => k_dflt k_is
  case c7 => k_dflt k_is
  case c8 => ktr_room
  case c9 => exact BindsTo.of_eq (by kernel_rfl)
  case d5 => decide
  case cB => exact locs rfl
  case d2 => exact rfl
  case d3 => exact rfl
  case d4 => exact rfl
  intro g0 L0 h0' FG0 F0 N0 B0 X0 T0
  simp only [List.reverse_cons, List.reverse_nil, List.nil_append] at F0
  k_fold
  k_steps
  all_goals rename _ = Txt.split _ _ => hlk
  all_goals rw [hSp] at hlk
  · exfalso
    rename ((List.length _ : Nat) : Int) ≠ 5 => h5
    have := congrArg List.length hlk
    rw [List.length_map] at this
    simp only [List.length_cons, List.length_nil] at this
    omega
  · rename List.get?Internal _ _ = some _ => hy
    rw [hlk] at hy
    have hy2 := Option.some.inj hy
    subst hy2
    k_dflt (refine KIN.call_text hIn hIl ?_)
    k_steps
    rename News h₀ L _ _ => lN
    obtain ⟨B1, rfl⟩ := nm1 lN
    rename _ < B1 ∧ _ => lB
    exact hret _ _ _ _ (by assumption) (kst_newsOf (l' := [(B1, { cls := .type "tuple", data := .seq #[.str (Str.ofString "here") th, .int low _] }), (a1, o1), (a2, o2)]) lN (by kst_in)) ⟨B1, _, rfl, rfl, lB.2.2.1, lB.2.2.2⟩
end
section
theorem nmT {h₀ h : Heap} {L R : Addr} {x : Str} {t : Tok} {n : Nat} {r : List (Addr × Obj)} (_ : News h₀ L h ((R, listOf #[Value.str x t] n) :: r)) : ∃ R' x' t', R' = R ∧ x' = x ∧ t' = t := ⟨_, _, _, rfl, rfl, rfl⟩
theorem nmHp {h₀ h : Heap} {L : Addr} {r : List (Addr × Obj)} (_ : News h₀ L h r) : ∃ h', h' = h := ⟨_, rfl⟩
theorem sum_three : ∀ (ps : List (Str × Tok)), (∀ p ∈ ps, p.1.length ≤ 3) → ((ps.map (·.1)).map (·.length)).sum ≤ 3 * ps.length
  | [], _ => Nat.zero_le _
  | p :: r, h => by
    have h1 := sum_three r fun q hq => h q (.tail _ hq)
    have h2 := h p (.head _)
    simp only [List.map_cons, List.sum_cons, List.length_cons]
    omega
def replyT (ys : List Str) (z : Int) : Str := Str.ofString "257 \"" ++ Txt.join (Str.ofString "\"\"") (((List.range 4).filter fun k => decide (Builtin.bitAnd (Int.fdiv z (2 ^ k)) 1 ≠ 0)).map fun k => ys.getD k ⟨#[]⟩) ++ Str.ofString "\" turned"
def firstT (low : Nat) : Str := Str.ofString "229 lowest (" ++ Txt.mul (Txt.item (Str.ofString "|!$+") (Int.fmod (low : Int) 4)) 3 ++ Str.ofString (toString (low : Int)) ++ Txt.item (Str.ofString "|!$+") (Int.fmod (low : Int) 4) ++ Str.ofString ")"
def sgn48 : List Str := Txt.split (Str.ofString "( ) [ ] : , ; + - * / | & < > = . % { } == != <= >= ~ ^ << >> ** += -= *= /= %= &= |= ^= <<= >>= **= // //= @ @= -> ... := !") (Str.ofString " ")
def namesAt (low : Nat) : List Str := (sgn48.drop (low - 7)).take 4
def sgnL : List Str := [⟨#[40]⟩, ⟨#[41]⟩, ⟨#[91]⟩, ⟨#[93]⟩, ⟨#[58]⟩, ⟨#[44]⟩, ⟨#[59]⟩, ⟨#[43]⟩, ⟨#[45]⟩, ⟨#[42]⟩, ⟨#[47]⟩, ⟨#[124]⟩, ⟨#[38]⟩, ⟨#[60]⟩, ⟨#[62]⟩, ⟨#[61]⟩, ⟨#[46]⟩, ⟨#[37]⟩, ⟨#[123]⟩, ⟨#[125]⟩, ⟨#[61, 61]⟩, ⟨#[33, 61]⟩, ⟨#[60, 61]⟩, ⟨#[62, 61]⟩, ⟨#[126]⟩, ⟨#[94]⟩, ⟨#[60, 60]⟩, ⟨#[62, 62]⟩, ⟨#[42, 42]⟩, ⟨#[43, 61]⟩, ⟨#[45, 61]⟩, ⟨#[42, 61]⟩, ⟨#[47, 61]⟩, ⟨#[37, 61]⟩, ⟨#[38, 61]⟩, ⟨#[124, 61]⟩, ⟨#[94, 61]⟩, ⟨#[60, 60, 61]⟩, ⟨#[62, 62, 61]⟩, ⟨#[42, 42, 61]⟩, ⟨#[47, 47]⟩, ⟨#[47, 47, 61]⟩, ⟨#[64]⟩, ⟨#[64, 61]⟩, ⟨#[45, 62]⟩, ⟨#[46, 46, 46]⟩, ⟨#[58, 61]⟩, ⟨#[33]⟩]
theorem sgnL_is : sgn48 = sgnL := by decide +kernel
theorem sgn48_len : sgn48.length = 48 := by rw [sgnL_is]; decide +kernel
theorem sgn48_small : ∀ y ∈ sgn48, y.length ≤ 3 := by rw [sgnL_is]; decide +kernel
theorem slice_four {l : List (Str × Tok)} {low : Nat} {lo hi : Int} (e : l.map (·.1) = sgn48) (h1 : 7 ≤ low) (h2 : low ≤ 51) (e1 : lo = (low : Int) - 7) (e2 : hi = (low : Int) - 3) :
    ∃ y0 y1 y2 y3 t0 t1 t2 t3, slicePick (strValues l).toArray (some lo) (some hi) none = #[Value.str y0 t0, .str y1 t1, .str y2 t2, .str y3 t3] ∧ (sgn48.drop (low - 7)).take 4 = [y0, y1, y2, y3] := by
  have hlen : l.length = 48 := by rw [← sgn48_len, ← e, List.length_map]
  have hb : sliceBounds (some lo) (some hi) none (strValues l).toArray.size = (((low - 7 : Nat) : Int), ((low - 3 : Nat) : Int), 1) := by
    have hs : (strValues l).toArray.size = 48 := by rw [List.size_toArray]; simp [strValues, hlen]
    rw [hs, e1, e2]
    have hc : ∀ k : Fin 45, sliceBounds (some (((k.val + 7 : Nat) : Int) - 7)) (some (((k.val + 7 : Nat) : Int) - 3)) none 48 = (((k.val + 7 - 7 : Nat) : Int), ((k.val + 7 - 3 : Nat) : Int), 1) := by decide +kernel
    have := hc ⟨low - 7, by omega⟩
    have e9 : low - 7 + 7 = low := by omega
    simp only [e9] at this
    exact this
  rw [kmk_pick_nat _ hb]
  have hd : ((l.drop (low - 7)).take 4).length = 4 := by rw [List.length_take, List.length_drop]; omega
  obtain ⟨p0, p1, p2, p3, hp⟩ : ∃ p0 p1 p2 p3, (l.drop (low - 7)).take 4 = [p0, p1, p2, p3] := by
    match hq : (l.drop (low - 7)).take 4 with
    | [a, b, c, d] => exact ⟨a, b, c, d, rfl⟩
    | [] => rw [hq] at hd; simp at hd
    | [_] => rw [hq] at hd; simp at hd
    | [_, _] => rw [hq] at hd; simp at hd
    | [_, _, _] => rw [hq] at hd; simp at hd
    | _ :: _ :: _ :: _ :: _ :: _ => rw [hq] at hd; simp at hd
  refine ⟨p0.1, p1.1, p2.1, p3.1, p0.2, p1.2, p2.2, p3.2, ?_, ?_⟩
  · have e4 : low - 3 - (low - 7) = 4 := by omega
    rw [e4]
    simp only [strValues, ← List.map_drop, ← List.map_take]
    rw [hp]
    rfl
  · rw [← e, ← List.map_drop, ← List.map_take, hp]
    rfl
local macro_rules | `(tactic| walk_at "subscriptTail Name Slice ref ref") => `(tactic| (k_here; refine Hold.out ?_))
local macro_rules | `(tactic| walk_at "CompSrcT") => `(tactic| (k_here; k_dflt (refine LCt.CompSrcT.range (n := 4) (by rfl) (by k_asm) (by k_asm) (by assumption) (by first | decide | rfl) (by first | rfl | decide) (by first | size_fits | exact Nat.le_of_ble_eq_true rfl) ?_; intro g')))
local macro_rules | `(tactic| walk_at "exec Assign cons ListComp") => `(tactic| (k_here; k_dflt (refine LCt.Assign_ListComp_T (F₀ := by k_asm) (by rfl) (by with_unfolding_all rfl) (by with_unfolding_all rfl) (by decide) (by rfl) (by decide) (by rfl) (by rfl) (by rfl) ?_); k_dflt lct_toSrc))
local macro_rules | `(tactic| walk_at "CompEnd") => `(tactic| (k_here; (rename News _ _ _ _ => cN); (rename _ ∧ _ ∧ _ ∧ _ ∧ _ ∧ LCg.Off3 _ _ _ _ => cO); k_dflt (refine LCg.CompEnd.intro (by assumption) cN _ (fun p hp => hp) cO True.intro ?_)))
local macro_rules | `(tactic| walk_at "CompRestT") => `(tactic| (k_here; refine Hold.out ?_))
local macro_rules | `(tactic| walk_at "call builtin:str.join") => `(tactic| (k_here; refine Hold.out ?_))
theorem con_repl {w : World} {mean : ExcName → Option Value} {mg mb : Str → Option Value} {S : Addr} {vs : List Value} {Ss : List Nat} {n : Nat} {low : Nat} {tl : Tok} (hi : IntsAre vs (up Ss)) (hS : ∀ s ∈ Ss, 1 ≤ s ∧ s < 16) (hl : Ss.length ≤ 5) (hlo : 7 ≤ low) (hlo2 : low ≤ 51) :
    Con w mean mg mb 199 20 100 [(S, listOf vs.toArray n)] [.ref S, .int (low : Int) tl] (fun r nx => ∃ R n' ws, r = .ref R ∧ nx = [(R, listOf ws.toArray n'), (S, listOf vs.toArray n)] ∧ StrsAre ws (firstT low :: (up Ss).map (replyT (namesAt low))) ∧ S < R) := by
  unfold Con
  w_top off
  k_fill
  intro dp un gd cn cs a ccd cl outer A₀ base h₀ L m s Q E B F X N Tp hk hd hu hret
  refine wpAny_call ?_
  refine' code_defC (binds := [(Str.ofString "sets", Value.ref S), (Str.ofString "lowest", Value.int (low : Int) tl)]) ?c1 ?c2 ?c3 ?c4 ?c5 ?cA ?cF ?cK ?c6 ?c7 ?c8 ?c9 ?cB ?cD ?_ ?d2 ?d3 ?d4
  case cA => exact rfl
  case cF => exact rfl
  case cK => assumption
  case c1 => k_asm
  case c2 => k_asm
  case c3 => k_asm
  case c4 => k_asm
  case c5 => k_asm
  case c6 => k_dflt k_is
  case c7 => k_dflt k_is
  case c8 => ktr_room
  case c9 => exact BindsTo.of_eq (by kernel_rfl)
  case cB => exact rfl
  case cD => decide +kernel
  case d2 => exact rfl
  case d3 => exact rfl
  case d4 => exact rfl
  intro g0 L0 h0' tk0 cells0 FG0 F0 N0 Y0 B0 X0 T0 l1
  (try k_lt l1)
  have hY := CellsAre.two Y0
  obtain ⟨o', o2', hE', d1', d2'⟩ := hY
  subst hE'
  clear Y0
  simp only [List.cons_append, List.nil_append] at N0
  (try dsimp only)
  (try k_fold)
  k_steps
  refine ⟨?_⟩
  rename List.map _ _ = Txt.split _ _ => e48
  rename Fr _ _ _ _ => lF
  rename News _ _ _ _ => lN
  k_dflt (refine kmk_slice (s := ⟨_, _, _, _, _⟩) lF lN (News.isList lN (by k_mem)) (IsPart.int _ _) (IsPart.int _ _) ?_ ?hs ?ht ?hz)
  case hs => with_unfolding_all rfl
  case ht => kmk_pure
  case hz =>
    have h8 := congrArg List.length e48
    rw [List.length_map] at h8
    have h9 := sgn48_len
    unfold sgn48 at h9
    rw [h9] at h8
    rw [List.size_toArray, PySem.sizeLine_eq]
    simp [strValues, h8]
  intro D1 h1 F1 N1 l1
  obtain ⟨y0, y1, y2, y3, t0, t1, t2, t3, hsl, hy⟩ := slice_four e48 hlo hlo2 rfl rfl
  rw [hsl] at N1
  (try k_lt l1)
  have d1 : o'.data = Data.cell none := d1'
  have d2 : o2'.data = Data.cell none := d2'
  clear d1' d2'
  clear lF lN
  k_whole
  (try dsimp only)
  (try k_fold)
  k_steps
  rename Fr _ _ _ _ => lF
  rename News _ _ _ _ => lN
  have hy0 : y0.length ≤ 3 ∧ y1.length ≤ 3 ∧ y2.length ≤ 3 ∧ y3.length ≤ 3 := by
    have hm : ∀ y ∈ [y0, y1, y2, y3], y.length ≤ 3 := by
      rw [← hy]
      intro y hm
      exact sgn48_small y (List.mem_of_mem_drop (List.mem_of_mem_take hm))
    exact ⟨hm _ (.head _), hm _ (.tail _ (.head _)), hm _ (.tail _ (.tail _ (.head _))), hm _ (.tail _ (.tail _ (.tail _ (.head _))))⟩
  obtain ⟨hy0, hy1, hy2, hy3⟩ := hy0
  rename Obj => oN
  rename oN.data = _ => dN
  rename D1 < _ ∧ _ => lR
  obtain ⟨R, fs, tf, e1, hfs, e3⟩ := nmT lN
  subst e1
  subst e3
  rw [← hfs] at lN
  obtain ⟨ws, hws⟩ : ∃ ws : List Value, ws = [Value.str fs tf] := ⟨_, rfl⟩
  have hwa : StrsAre ws [fs] := by rw [hws]; exact .cons _ _ .nil
  obtain ⟨hh, e4⟩ := nmHp lN
  subst e4
  have lN' : News g0 L0 hh [(L0 + 1 + 1, o'), (R, listOf ws.toArray 0), (D1, listOf #[Value.str y0 t0, Value.str y1 t1, Value.str y2 t2, Value.str y3 t3] 0), (L0 + 1, oN), (S, listOf vs.toArray n)] := by
    rw [hws]
    exact kst_newsOf lN (by kst_in)
  have ap1 : L0 + 1 + 1 ≠ L0 + 1 := Nat.succ_ne_self _
  have ap2 : R ≠ L0 + 1 + 1 := Nat.ne_of_gt lR.2.2.1
  have ap3 : D1 ≠ L0 + 1 + 1 := Nat.ne_of_gt l1.2.1
  have ap4 : S ≠ L0 + 1 + 1 := Nat.ne_of_lt (Nat.lt_trans (show S < L0 by assumption) (Nat.lt_succ_of_lt (Nat.lt_succ_self _)))
  refine For_cellL (σ := Obj × List Value × List Str × Nat) (c := L0 + 1 + 1) (l := S) (fun c => [(L0 + 1 + 1, c.1), (R, listOf c.2.1.toArray c.2.2.2), (D1, listOf #[Value.str y0 t0, Value.str y1 t1, Value.str y2 t2, Value.str y3 t3] 0), (L0 + 1, oN), (S, listOf vs.toArray n)]) (fun _ => []) (fun c => (∃ v, c.1.data = .cell v) ∧ StrsAre c.2.1 c.2.2.1) [Str.ofString "turned"] (fun pre c => c.2.2.1 = fs :: pre.map (replyT [y0, y1, y2, y3])) (o', ws, [fs], 0)
    rfl rfl (by with_unfolding_all rfl) (by with_unfolding_all rfl) ?it ?led (fun c => .tail _ (.tail _ (.tail _ (.tail _ (.head _))))) (fun _ => rfl) hi lF lN' ⟨⟨_, d1⟩, hwa⟩ (fun _ h => nomatch h) rfl ?_ ?_
  case led =>
    rintro ⟨o9, v9, x9, c9⟩ ⟨⟨v, hv⟩, _⟩
    refine ⟨o9, v, _, rfl, hv, ?_⟩
    intro p hp
    simp only [List.mem_cons, List.not_mem_nil, or_false] at hp
    rcases hp with rfl | rfl | rfl | rfl
    · exact ap2
    · exact ap3
    · exact ap1.symm
    · exact ap4
  case it =>
    k_steps
    (try exact ⟨rfl, rfl⟩)
  · rintro ⟨o9, v9, x9, c9⟩ pre post z t o8 o7 r u h tk own he hmem hoff hfa hinv hLd hd7 Fx Nx
    obtain ⟨⟨v8, hv8⟩, hst⟩ := hfa
    have hr := (List.cons.inj hLd).2
    subst hr
    dsimp only [kstB] at Fx
    dsimp only at hinv hst
    simp only [List.cons_append, List.nil_append] at Nx
    simp only [List.map_cons, List.map_nil] at hoff
    have hz : v9.length ≤ 60 := by
      rw [StrsAre.length hst, hinv, List.length_cons, List.length_map]
      have h7 := congrArg List.length he
      simp only [up, List.length_map, List.length_append, List.length_cons] at h7
      omega
    obtain ⟨b, hb1, hb2, hb3⟩ : ∃ b : Nat, z = (b : Int) ∧ 1 ≤ b ∧ b < 16 := by
      obtain ⟨b, hb, e⟩ := List.mem_map.mp hmem
      exact ⟨b, e.symm, (hS b hb).1, (hS b hb).2⟩
    generalize hP : InvPostN _ _ _ _ _ _ _ = P
    k_steps
    refine ⟨?_⟩
    refine compFour (fun i => decide (Builtin.bitAnd (Int.fdiv z (2 ^ i)) 1 ≠ 0)) (fun i => Value.str (([(y0, t0), (y1, t1), (y2, t2), (y3, t3)] : List (Str × Tok)).getD i (⟨#[]⟩, 0)).1 (([(y0, t0), (y1, t1), (y2, t2), (y3, t3)] : List (Str × Tok)).getD i (⟨#[]⟩, 0)).2) ?_ ?_ ?_ ?_ ?_
    · intro k ys hY hN
      refine LCt.CompRestT.succ ?_
      intro v' I' oI' C' oC' D' m' h' tk' E' hv' hC' hx' F' N' off' ne'
      obtain ⟨t9', hv9'⟩ := hv'
      subst hv9'
      (try simp only [LCg.Off3] at off')
      k_steps
      · refine ⟨?_⟩
        rename Builtin.bitAnd _ _ ≠ 0 => hq
        exact hY (decide_eq_true hq)
      · refine ⟨?_⟩
        rename Builtin.bitAnd _ _ = 0 => hq
        exact hN (decide_eq_false fun hq' => hq' hq)
    · intro k ys hY hN
      refine LCt.CompRestT.succ ?_
      intro v' I' oI' C' oC' D' m' h' tk' E' hv' hC' hx' F' N' off' ne'
      obtain ⟨t9', hv9'⟩ := hv'
      subst hv9'
      (try simp only [LCg.Off3] at off')
      k_steps
      · refine ⟨?_⟩
        rename Builtin.bitAnd _ _ ≠ 0 => hq
        exact hY (decide_eq_true hq)
      · refine ⟨?_⟩
        rename Builtin.bitAnd _ _ = 0 => hq
        exact hN (decide_eq_false fun hq' => hq' hq)
    · intro k ys hY hN
      refine LCt.CompRestT.succ ?_
      intro v' I' oI' C' oC' D' m' h' tk' E' hv' hC' hx' F' N' off' ne'
      obtain ⟨t9', hv9'⟩ := hv'
      subst hv9'
      (try simp only [LCg.Off3] at off')
      k_steps
      · refine ⟨?_⟩
        rename Builtin.bitAnd _ _ ≠ 0 => hq
        exact hY (decide_eq_true hq)
      · refine ⟨?_⟩
        rename Builtin.bitAnd _ _ = 0 => hq
        exact hN (decide_eq_false fun hq' => hq' hq)
    · intro k ys hY hN
      refine LCt.CompRestT.succ ?_
      intro v' I' oI' C' oC' D' m' h' tk' E' hv' hC' hx' F' N' off' ne'
      obtain ⟨t9', hv9'⟩ := hv'
      subst hv9'
      (try simp only [LCg.Off3] at off')
      k_steps
      · refine ⟨?_⟩
        rename Builtin.bitAnd _ _ ≠ 0 => hq
        exact hY (decide_eq_true hq)
      · refine ⟨?_⟩
        rename Builtin.bitAnd _ _ = 0 => hq
        exact hN (decide_eq_false fun hq' => hq' hq)
    · k_steps
      refine ⟨?_⟩
      rename News _ _ _ _ => jN
      obtain ⟨DT, e9⟩ := nm1 jN
      subst e9
      obtain ⟨ps, hps⟩ : ∃ ps : List (Str × Tok), ps = (((List.range 4).filter (fun i => decide (Builtin.bitAnd (Int.fdiv z (2 ^ i)) 1 ≠ 0))).map fun i => (([(y0, t0), (y1, t1), (y2, t2), (y3, t3)] : List (Str × Tok)).getD i (⟨#[]⟩, 0))) := ⟨_, rfl⟩
      have hsv : strValues ps = (((List.range 4).filter (fun i => decide (Builtin.bitAnd (Int.fdiv z (2 ^ i)) 1 ≠ 0))).map fun i => Value.str (([(y0, t0), (y1, t1), (y2, t2), (y3, t3)] : List (Str × Tok)).getD i (⟨#[]⟩, 0)).1 (([(y0, t0), (y1, t1), (y2, t2), (y3, t3)] : List (Str × Tok)).getD i (⟨#[]⟩, 0)).2) := by
        rw [hps]; simp only [strValues, List.map_map]; rfl
      rw [← hsv] at jN
      have hjk : ∀ p ∈ ps, p.1.length ≤ 3 := by
        rw [hps]
        intro p hp
        obtain ⟨i, hi, rfl⟩ := List.mem_map.mp hp
        have hi4 : i < 4 := List.mem_range.mp (List.mem_filter.mp hi).1
        match i, hi4 with
        | 0, _ => exact hy0
        | 1, _ => exact hy1
        | 2, _ => exact hy2
        | 3, _ => exact hy3
      have hpl : ps.length ≤ 4 := by rw [hps, List.length_map]; exact List.length_filter_le _ _
      k_dflt (refine SC.join (l := ps) (texts := ps.map (·.1)) (News.isList jN (.head _)) rfl ?jk ?_)
      case jk =>
        refine joinOk_of ?_
        have h1 := sum_three ps hjk
        rw [List.length_map]
        have h2 : (Str.ofString "\"\"").length = 2 := rfl
        rw [h2]
        omega
      intro t9 k9
      have hjl : (Txt.join (Str.ofString "\"\"") (ps.map (·.1))).length ≤ 68 := by
        refine Nat.le_trans (len_join_le (n := 16) ?_ (by decide)) (by decide)
        have h1 := sum_three ps hjk
        unfold Weighs
        rw [List.length_map]
        omega
      k_whole
      (try dsimp only)
      (try k_fold)
      k_steps
      subst hP
      rename News _ _ _ _ => jN9
      simp only [List.push_toArray] at jN9
      have jN8 := kst_newsOf jN9 (fun p hp => List.mem_cons_of_mem _ hp)
      have hpm : ps.map (·.1) = ((List.range 4).filter (fun i => decide (Builtin.bitAnd (Int.fdiv z (2 ^ i)) 1 ≠ 0))).map fun i => ([y0, y1, y2, y3] : List Str).getD i ⟨#[]⟩ := by
        rw [hps, List.map_map]
        refine congrArg (fun f => List.map f _) (funext fun i => ?_)
        match i with
        | 0 => rfl
        | 1 => rfl
        | 2 => rfl
        | 3 => rfl
        | n + 4 => rfl
      refine kst_end (σ := Obj × List Value × List Str × Nat) (o7, v9 ++ [Value.str (replyT [y0, y1, y2, y3] z) _], x9 ++ [replyT [y0, y1, y2, y3] z], c9 + 1) (by assumption) (by unfold replyT; rw [← hpm]; exact jN8) (inL (own := own) rfl) (by intro p hp; kst_mem) rfl ⟨⟨_, hd7⟩, ?_⟩ (by kst_all) (by kst_same) ?_
      · exact StrsAre.append' hst (.cons _ _ .nil)
      · show x9 ++ [_] = fs :: List.map _ (pre ++ [z])
        rw [hinv, List.map_append]; rfl
  · rintro ⟨o9, v9, x9, c9⟩ u h tk hfa hinv Fx Nx
    dsimp only [kstB] at Fx
    dsimp only at hfa hinv Nx
    k_steps
    rename News h₀ L _ _ => lN9
    refine hret _ _ _ _ (by assumption) (kst_newsOf (l' := [(R, listOf v9.toArray c9), (S, listOf vs.toArray n)]) lN9 (by kst_in)) ⟨R, c9, v9, rfl, rfl, ?_, lR.2.2.2.2⟩
    have h1 := hfa.2
    rw [hinv, hfs, ← hy] at h1
    exact h1
end
section
open PySem PySem.W PyProof.Rows PySem.Spec
def exactC : List (Str × Int) := [(Str.ofString "!", 54), (Str.ofString "!=", 28), (Str.ofString "%", 24), (Str.ofString "%=", 40), (Str.ofString "&", 19), (Str.ofString "&=", 41), (Str.ofString "(", 7), (Str.ofString ")", 8), (Str.ofString "*", 16), (Str.ofString "**", 35), (Str.ofString "**=", 46), (Str.ofString "*=", 38), (Str.ofString "+", 14), (Str.ofString "+=", 36), (Str.ofString ",", 12), (Str.ofString "-", 15), (Str.ofString "-=", 37), (Str.ofString "->", 51), (Str.ofString ".", 23), (Str.ofString "...", 52), (Str.ofString "/", 17), (Str.ofString "//", 47), (Str.ofString "//=", 48), (Str.ofString "/=", 39), (Str.ofString ":", 11), (Str.ofString ":=", 53), (Str.ofString ";", 13), (Str.ofString "<", 20), (Str.ofString "<<", 33), (Str.ofString "<<=", 44), (Str.ofString "<=", 29), (Str.ofString "=", 22), (Str.ofString "==", 27), (Str.ofString ">", 21), (Str.ofString ">=", 30), (Str.ofString ">>", 34), (Str.ofString ">>=", 45), (Str.ofString "@", 49), (Str.ofString "@=", 50), (Str.ofString "[", 9), (Str.ofString "]", 10), (Str.ofString "^", 32), (Str.ofString "^=", 43), (Str.ofString "{", 25), (Str.ofString "|", 18), (Str.ofString "|=", 42), (Str.ofString "}", 26), (Str.ofString "~", 31)]
def namesL (low : Nat) : List Str := (sgnL.drop (low - 7)).take 4
theorem namesL_is (low : Nat) : namesAt low = namesL low := by unfold namesAt namesL; rw [sgnL_is]
theorem exact_at : ∀ i : Fin 48, kdpHas exactC (sgnL.getD i.val ⟨#[]⟩) = true ∧ kdpLook exactC (sgnL.getD i.val ⟨#[]⟩) 0 = ((7 + i.val : Nat) : Int) := by decide +kernel
def firstOk (low : Nat) : Bool :=
  decide ((firstT low).length ≤ 200) && ((Txt.slice (firstT low) none (some 3) != Str.ofString "229") == false) && decide (Txt.find (firstT low) (Str.ofString "(") = 11) &&
  decide (12 < Txt.find3 (firstT low) (Str.ofString ")") 12) && decide (Txt.find3 (firstT low) (Str.ofString ")") 12 < (firstT low).length) &&
  ((Txt.item (firstT low) 12 != Txt.item (firstT low) (Txt.find3 (firstT low) (Str.ofString ")") 12 - 1)) == false) &&
  decide (Txt.split (Txt.slice (firstT low) (some 12) (some (Txt.find3 (firstT low) (Str.ofString ")") 12))) (Txt.item (firstT low) 12) = [⟨#[]⟩, ⟨#[]⟩, ⟨#[]⟩, Str.ofString (toString (low : Int)), ⟨#[]⟩]) &&
  decide (PySem.intText? (Str.ofString (toString (low : Int))) = some (low : Int)) && decide ((Str.ofString (toString (low : Int))).length ≤ 640)
theorem first_all : ∀ i : Fin 45, firstOk (7 + i.val) = true := by decide +kernel
def picksIx (b : Nat) : List Nat := (List.range 4).filter b.testBit
def picks (low b : Nat) : List Str := (picksIx b).map fun k => (namesL low).getD k ⟨#[]⟩
theorem cat_uniq {c : Nat} : ∀ {a b r r' : List Nat}, c ∉ a → c ∉ b → a ++ c :: r = b ++ c :: r' → a = b ∧ r = r'
  | [], [], _, _, _, _, h => ⟨rfl, (List.cons.inj h).2⟩
  | [], x :: b, _, _, _, hb, h => absurd (by rw [(List.cons.inj h).1]; exact List.mem_cons_self) hb
  | x :: a, [], _, _, ha, _, h => absurd (by rw [← (List.cons.inj h).1]; exact List.mem_cons_self) ha
  | x :: a, y :: b, _, _, ha, hb, h => by
    obtain ⟨h1, h2⟩ := List.cons.inj h
    obtain ⟨h3, h4⟩ := cat_uniq (fun m => ha (List.mem_cons_of_mem _ m)) (fun m => hb (List.mem_cons_of_mem _ m)) h2
    exact ⟨by rw [h1, h3], h4⟩
theorem join_two (s x y : Str) (r : List Str) : (Str.join s (x :: y :: r)).cps.toList = x.cps.toList ++ (s.cps.toList ++ (Str.join s (y :: r)).cps.toList) := by
  show (x ++ s ++ Str.join s (y :: r)).cps.toList = _
  rw [Str.cps_append, Str.cps_append, Array.toList_append, Array.toList_append, List.append_assoc]
theorem str_inj {a b : Str} (h : a.cps.toList = b.cps.toList) : a = b := by
  obtain ⟨⟨a⟩⟩ := a
  obtain ⟨⟨b⟩⟩ := b
  exact congrArg (fun l : List Nat => (⟨⟨l⟩⟩ : Str)) h
theorem join_uniq {c : Nat} : ∀ {ps qs : List Str}, ps ≠ [] → qs ≠ [] → (∀ p ∈ ps, c ∉ p.cps.toList) → (∀ p ∈ qs, c ∉ p.cps.toList) → Str.join ⟨#[c]⟩ ps = Str.join ⟨#[c]⟩ qs → ps = qs
  | [], _, h, _, _, _, _ => absurd rfl h
  | _, [], _, h, _, _, _ => absurd rfl h
  | [x], [y], _, _, _, _, h => by
    have h' : x = y := h
    rw [h']
  | [x], y :: z :: r, _, _, hp, _, h => by
    have h1 := congrArg (fun s : Str => s.cps.toList) h
    rw [join_two] at h1
    exact absurd (by show c ∈ x.cps.toList; rw [show x.cps.toList = _ from h1]; simp) (hp x List.mem_cons_self)
  | x :: z :: r, [y], _, _, _, hq, h => by
    have h1 := congrArg (fun s : Str => s.cps.toList) h
    rw [join_two] at h1
    exact absurd (by show c ∈ y.cps.toList; rw [show y.cps.toList = _ from h1.symm]; simp) (hq y List.mem_cons_self)
  | x :: z :: r, y :: v :: t, _, _, hp, hq, h => by
    have h1 := congrArg (fun s : Str => s.cps.toList) h
    rw [join_two, join_two] at h1
    obtain ⟨h2, h3⟩ := cat_uniq (hp x List.mem_cons_self) (hq y List.mem_cons_self) h1
    rw [str_inj h2, join_uniq (List.cons_ne_nil _ _) (List.cons_ne_nil _ _) (fun p hm => hp p (List.mem_cons_of_mem _ hm)) (fun p hm => hq p (List.mem_cons_of_mem _ hm)) (str_inj h3)]
theorem quo_free : ∀ (a r : List Nat), 34 ∉ a → quoGo (a ++ r) = a ++ quoGo r
  | [], _, _ => rfl
  | x :: a, r, h => by
    rw [List.cons_append, quo_one _ (fun e => h (by rw [e]; exact List.mem_cons_self)), quo_free a r fun m => h (List.mem_cons_of_mem _ m)]
    rfl
theorem quo_join (rest : List Nat) : ∀ ps : List Str, ps ≠ [] → (∀ p ∈ ps, 34 ∉ p.cps.toList) → quoGo ((Str.join ⟨#[34, 34]⟩ ps).cps.toList ++ 34 :: 32 :: rest) = (Str.join ⟨#[34]⟩ ps).cps.toList
  | [], h, _ => absurd rfl h
  | [x], _, h => by
    show quoGo (x.cps.toList ++ _) = x.cps.toList
    rw [quo_free _ _ (h x List.mem_cons_self), quo_close _ (fun d r' e => by
      have := (List.cons.inj e).1
      omega), List.append_nil]
  | x :: y :: r, _, h => by
    rw [join_two, join_two, List.append_assoc, List.append_assoc, quo_free _ _ (h x List.mem_cons_self)]
    show x.cps.toList ++ quoGo (34 :: 34 :: ((Str.join ⟨#[34, 34]⟩ (y :: r)).cps.toList ++ _)) = _
    rw [quo_two, quo_join rest (y :: r) (List.cons_ne_nil _ _) fun p hm => h p (List.mem_cons_of_mem _ hm)]
    rfl
theorem split_quo (ps : List Str) (h0 : ps ≠ []) (h : ∀ p ∈ ps, 34 ∉ p.cps.toList) (rest : List Nat) : Txt.split ⟨(quoGo ((Str.join ⟨#[34, 34]⟩ ps).cps.toList ++ 34 :: 32 :: rest)).toArray⟩ ⟨#[34]⟩ = ps := by
  rw [quo_join rest ps h0 h]
  refine join_uniq (c := 34) (fun e => ?_) h0 (StrLaws.split_free _ _) h ?_
  · have := split_pos ⟨((Str.join ⟨#[34]⟩ ps).cps.toList).toArray⟩ ⟨#[34]⟩
    rw [e] at this
    exact absurd this (by decide)
  · rw [StrLaws.join_split]
theorem ix_is (b : Nat) : ((List.range 4).filter fun k => decide (Builtin.bitAnd (Int.fdiv (b : Int) (2 ^ k)) 1 ≠ 0)) = picksIx b := by
  unfold picksIx
  refine List.filter_congr fun k _ => ?_
  rw [bit_nat]
  cases b.testBit k <;> rfl
theorem reply_is (ys : List Str) (b : Nat) : (replyT ys (b : Int)).cps.toList = 50 :: 53 :: 55 :: 32 :: 34 :: ((Str.join ⟨#[34, 34]⟩ ((picksIx b).map fun k => ys.getD k ⟨#[]⟩)).cps.toList ++ 34 :: 32 :: [116, 117, 114, 110, 101, 100]) := by
  unfold replyT
  rw [ix_is, show Txt.join (Str.ofString "\"\"") ((picksIx b).map fun k => ys.getD k ⟨#[]⟩) = Str.join ⟨#[34, 34]⟩ ((picksIx b).map fun k => ys.getD k ⟨#[]⟩) by
    rw [show Str.ofString "\"\"" = ⟨#[34, 34]⟩ by decide +kernel]; exact StrLaws.glued_eq_join _ _, Str.cps_append, Str.cps_append, Array.toList_append, Array.toList_append,
    show (Str.ofString "257 \"").cps.toList = [50, 53, 55, 32, 34] by decide +kernel, show (Str.ofString "\" turned").cps.toList = [34, 32, 116, 117, 114, 110, 101, 100] by decide +kernel]
  rw [List.append_assoc]
  rfl
theorem sgnL_ok : ∀ y ∈ sgnL, y.length ≤ 3 ∧ 34 ∉ y.cps.toList := by decide +kernel
theorem names_ok (low k : Nat) : ((namesL low).getD k ⟨#[]⟩).length ≤ 3 ∧ 34 ∉ ((namesL low).getD k ⟨#[]⟩).cps.toList := by
  rw [List.getD_eq_getElem?_getD]
  cases h : (namesL low)[k]? with
  | none => decide
  | some y => exact sgnL_ok y (List.mem_of_mem_drop (List.mem_of_mem_take (List.mem_of_getElem? h)))
theorem picks_ok (low b : Nat) : ∀ y ∈ picks low b, y.length ≤ 3 ∧ 34 ∉ y.cps.toList := by
  intro y hy
  obtain ⟨k, _, rfl⟩ := List.mem_map.mp hy
  exact names_ok low k
theorem picksIx_ne : ∀ b : Fin 16, 1 ≤ b.val → picksIx b.val ≠ [] := by decide +kernel
theorem picks_ne {low b : Nat} (h1 : 1 ≤ b) (h2 : b < 16) : picks low b ≠ [] := fun e => picksIx_ne ⟨b, h2⟩ h1 (List.map_eq_nil_iff.mp e)
theorem picks_len (low b : Nat) : (picks low b).length ≤ 4 := by
  unfold picks picksIx; rw [List.length_map]; exact List.length_filter_le _ _
theorem reply_len (low b : Nat) : 5 ≤ (replyT (namesL low) (b : Int)).length ∧ (replyT (namesL low) (b : Int)).length ≤ 200 := by
  have h1 := congrArg List.length (reply_is (namesL low) b)
  have h2 := StrLaws.join_length_le ⟨#[34, 34]⟩ (picks low b)
  have h3 := StrLaws.sumLen_le (B := 3) (picks low b) fun y hy => (picks_ok low b y hy).1
  have h4 := picks_len low b
  rw [Array.length_toList] at h1
  simp only [List.length_cons, List.length_append, List.length_nil, Array.length_toList] at h1
  have h5 : (⟨#[34, 34]⟩ : Str).length = 2 := rfl
  rw [h5] at h2
  have h6 : (Str.join ⟨#[34, 34]⟩ ((picksIx b).map fun k => (namesL low).getD k ⟨#[]⟩)).cps.size ≤ 20 := by
    show (Str.join ⟨#[34, 34]⟩ (picks low b)).length ≤ 20
    omega
  have h7 : (replyT (namesL low) (b : Int)).length = (replyT (namesL low) (b : Int)).cps.size := rfl
  omega
theorem slice_a {x : Str} {r : List Nat} (h : x.cps.toList = 50 :: 53 :: 55 :: 32 :: 34 :: r) : (Txt.slice x none (some 3) != Str.ofString "257") = false := by
  have e : Txt.slice x none (some 3) = ⟨((x.cps.toList.drop 0).take ((3 : Int) - 0).toNat).toArray⟩ := StrLaws.sliceText_to ⟨by decide, by rw [h]; simp only [List.length_cons]; omega⟩
  rw [e, h]
  exact (by decide +kernel : ((⟨#[50, 53, 55]⟩ : Str) != Str.ofString "257") = false)
theorem slice_b {x : Str} {r : List Nat} (h : x.cps.toList = 50 :: 53 :: 55 :: 32 :: 34 :: r) : (Txt.slice x (some 3) (some 5) != Str.ofString " \"") = false := by
  have e : Txt.slice x (some 3) (some 5) = ⟨((x.cps.toList.drop (3 : Int).toNat).take ((5 : Int) - 3).toNat).toArray⟩ := StrLaws.sliceText_plain ⟨by decide, by decide, by rw [h]; simp only [List.length_cons]; omega⟩
  rw [e, h]
  exact (by decide +kernel : ((⟨#[32, 34]⟩ : Str) != Str.ofString " \"") = false)
theorem reply_split {low b : Nat} (h1 : 1 ≤ b) (h2 : b < 16) : Txt.split ⟨(quoGo ((replyT (namesL low) (b : Int)).cps.toList.drop 5)).toArray⟩ (Str.ofString "\"") = picks low b := by
  rw [reply_is, quot_is]
  exact split_quo (picks low b) (picks_ne h1 h2) (fun y hy => (picks_ok low b y hy).2) _
theorem exact_tab {w : World} {h : Heap} (X : (hd.heap_39 w.params).In h) : StrTab Challenge.rw_wn0103_01.row.prog w h 164 (kdpD exactC) := by
  have := kt_tab_in (a := 164) (D := exactC.map fun p => (p.1, PyData.int p.2)) Challenge.rw_wn0103_01.row.prog w X (by kernel_rfl) (by decide +kernel) (by kernel_rfl)
  rw [List.map_map] at this
  exact this
end
section
local macro_rules | `(tactic| walk_at "call ref") => `(tactic| (k_here; (with_reducible show wpAny _ _ (call (Value.ref 21) [Value.int _ _, Value.int _ _]) _ _ _); k_dflt (refine' (con_lt _ _ _ _) _ _ _ _ _ _ _ _ _ _ _ _ _ _ _ _ _ ?e1 ?e2 ?e3 ?e4 ?e5 ?e6 ?e7 ?e8 ?_); (case e1 => k_dflt k_asm); (case e2 => k_dflt k_asm); (case e3 => k_dflt k_asm); (case e4 => k_dflt k_asm); (case e5 => k_dflt k_asm); (case e6 => k_dflt (first | exact rfl | assumption)); (case e7 => k_dflt ktr_room); (case e8 => k_dflt ktr_units); intro r9 nx9 h9 tk9 F9 N9 e9; (obtain ⟨e9, f9⟩ := e9); subst e9; subst f9; (try dsimp only); (try k_sweep); (try k_fold)))
local macro_rules | `(tactic| walk_at "call ref") => `(tactic| (k_here; (with_reducible show wpAny _ _ (call (Value.ref 28) [Value.int _ _, Value.int _ _]) _ _ _); k_dflt (refine' (con_add _ _ _ _) _ _ _ _ _ _ _ _ _ _ _ _ _ _ _ _ _ ?e1 ?e2 ?e3 ?e4 ?e5 ?e6 ?e7 ?e8 ?_); (case e1 => k_dflt k_asm); (case e2 => k_dflt k_asm); (case e3 => k_dflt k_asm); (case e4 => k_dflt k_asm); (case e5 => k_dflt k_asm); (case e6 => k_dflt (first | exact rfl | assumption)); (case e7 => k_dflt ktr_room); (case e8 => k_dflt ktr_units); intro r9 nx9 h9 tk9 F9 N9 e9; (obtain ⟨⟨k9, e9⟩, f9⟩ := e9); subst e9; subst f9; (try dsimp only); (try k_sweep); (try k_fold)))
local macro_rules | `(tactic| walk_at "call ref") => `(tactic| (k_here; (with_reducible show wpAny _ _ (call (Value.ref 42) [Value.int _ _, Value.int _ _]) _ _ _); k_dflt (refine' (con_sub _ _ _ _) _ _ _ _ _ _ _ _ _ _ _ _ _ _ _ _ _ ?e1 ?e2 ?e3 ?e4 ?e5 ?e6 ?e7 ?e8 ?_); (case e1 => k_dflt k_asm); (case e2 => k_dflt k_asm); (case e3 => k_dflt k_asm); (case e4 => k_dflt k_asm); (case e5 => k_dflt k_asm); (case e6 => k_dflt (first | exact rfl | assumption)); (case e7 => k_dflt ktr_room); (case e8 => k_dflt ktr_units); intro r9 nx9 h9 tk9 F9 N9 e9; (obtain ⟨⟨k9, e9⟩, f9⟩ := e9); subst e9; subst f9; (try dsimp only); (try k_sweep); (try k_fold)))
local macro_rules | `(tactic| walk_at "call ref") => `(tactic| (k_here; (with_reducible show wpAny _ _ (call (Value.ref 42) [Value.int _ _, Value.int _ _]) _ _ _); k_dflt (refine' (con_sub256 _ _ _) _ _ _ _ _ _ _ _ _ _ _ _ _ _ _ _ _ ?e1 ?e2 ?e3 ?e4 ?e5 ?e6 ?e7 ?e8 ?_); (case e1 => k_dflt k_asm); (case e2 => k_dflt k_asm); (case e3 => k_dflt k_asm); (case e4 => k_dflt k_asm); (case e5 => k_dflt k_asm); (case e6 => k_dflt (first | exact rfl | assumption)); (case e7 => k_dflt ktr_room); (case e8 => k_dflt ktr_units); intro r9 nx9 h9 tk9 F9 N9 e9; (obtain ⟨⟨k9, e9⟩, f9⟩ := e9); subst e9; subst f9; (try dsimp only); (try k_sweep); (try k_fold)))
local macro_rules | `(tactic| walk_at "call ref") => `(tactic| (k_here; (with_reducible show wpAny _ _ (call (Value.ref 49) [Value.int _ _, Value.int _ _]) _ _ _); k_dflt (refine' (con_xorN _ _ _ _) _ _ _ _ _ _ _ _ _ _ _ _ _ _ _ _ _ ?e1 ?e2 ?e3 ?e4 ?e5 ?e6 ?e7 ?e8 ?_); (case e1 => k_dflt k_asm); (case e2 => k_dflt k_asm); (case e3 => k_dflt k_asm); (case e4 => k_dflt k_asm); (case e5 => k_dflt k_asm); (case e6 => k_dflt (first | exact rfl | assumption)); (case e7 => k_dflt ktr_room); (case e8 => k_dflt ktr_units); intro r9 nx9 h9 tk9 F9 N9 e9; (obtain ⟨⟨k9, e9⟩, f9⟩ := e9); subst e9; subst f9; (try dsimp only); (try k_sweep); (try k_fold)))
local macro_rules | `(tactic| walk_at "call ref") => `(tactic| (k_here; (with_reducible show wpAny _ _ (call (Value.ref 173) [Value.int _ _]) _ _ _); k_dflt (refine' (con_isNT _ _) _ _ _ _ _ _ _ _ _ _ _ _ _ _ _ _ _ ?e1 ?e2 ?e3 ?e4 ?e5 ?e6 ?e7 ?e8 ?_); (case e1 => k_dflt k_asm); (case e2 => k_dflt k_asm); (case e3 => k_dflt k_asm); (case e4 => k_dflt k_asm); (case e5 => k_dflt k_asm); (case e6 => k_dflt (first | exact rfl | assumption)); (case e7 => k_dflt ktr_room); (case e8 => k_dflt ktr_units); intro r9 nx9 h9 tk9 F9 N9 e9; (obtain ⟨e9, f9⟩ := e9); subst e9; subst f9; (try dsimp only); (try k_sweep); (try k_fold)))
local macro_rules | `(tactic| walk_at "call ref") => `(tactic| (k_here; (with_reducible show wpAny _ _ (call (Value.ref 180) [Value.int _ _]) _ _ _); k_dflt (refine' (con_isEOF _ _) _ _ _ _ _ _ _ _ _ _ _ _ _ _ _ _ _ ?e1 ?e2 ?e3 ?e4 ?e5 ?e6 ?e7 ?e8 ?_); (case e1 => k_dflt k_asm); (case e2 => k_dflt k_asm); (case e3 => k_dflt k_asm); (case e4 => k_dflt k_asm); (case e5 => k_dflt k_asm); (case e6 => k_dflt (first | exact rfl | assumption)); (case e7 => k_dflt ktr_room); (case e8 => k_dflt ktr_units); intro r9 nx9 h9 tk9 F9 N9 e9; (obtain ⟨e9, f9⟩ := e9); subst e9; subst f9; (try dsimp only); (try k_sweep); (try k_fold)))
local macro_rules | `(tactic| walk_at "call ref") => `(tactic| (k_here; (with_reducible show wpAny _ _ (call (Value.ref 56) [Value.ref _, Value.int _ _]) _ _ _); k_dflt (refine' (con_contains ?qM ?qI _ _) _ _ _ _ _ _ _ _ _ _ _ _ _ _ _ _ _ ?e1 ?e2 ?e3 ?e4 ?e5 ?e6 ?e7 ?e8 ?_); (case e1 => k_dflt k_asm); (case e2 => k_dflt k_asm); (case e3 => k_dflt k_asm); (case e4 => k_dflt k_asm); (case e5 => k_dflt k_asm); (case e6 => k_dflt (first | exact rfl | assumption)); (case e7 => k_dflt ktr_room); (case e8 => k_dflt ktr_units); (case qM => k_dflt (k_mem)); (case qI => k_dflt (assumption)); intro r9 nx9 h9 tk9 F9 N9 e9; (obtain ⟨e9, f9⟩ := e9); subst e9; subst f9; (try dsimp only); (try k_sweep); (try k_fold)))
local macro_rules | `(tactic| walk_at "call ref") => `(tactic| (k_here; (with_reducible show wpAny _ _ (call (Value.ref 63) [Value.ref _, Value.int _ _]) _ _ _); k_dflt (refine' (con_getD ?qM ?qD ?qS _ _ ?qH) _ _ _ _ _ _ _ _ _ _ _ _ _ _ _ _ _ ?e1 ?e2 ?e3 ?e4 ?e5 ?e6 ?e7 ?e8 ?_); (case e1 => k_dflt k_asm); (case e2 => k_dflt k_asm); (case e3 => k_dflt k_asm); (case e4 => k_dflt k_asm); (case e5 => k_dflt k_asm); (case e6 => k_dflt (first | exact rfl | assumption)); (case e7 => k_dflt ktr_room); (case e8 => k_dflt ktr_units); (case qM => k_dflt (k_mem)); (case qD => k_dflt (assumption)); (case qS => k_dflt (assumption)); (case qH => k_dflt (first | assumption | ((rename (_ → kdfHas _ _ = true) => hX); exact hX (by assumption)))); intro r9 nx9 h9 tk9 F9 N9 e9; (obtain ⟨⟨k9, e9⟩, f9⟩ := e9); subst e9; subst f9; (try dsimp only); (try k_sweep); (try k_fold)))
local macro_rules | `(tactic| walk_at "call ref") => `(tactic| (k_here; (with_reducible show wpAny _ _ (call (Value.ref 63) [Value.ref _, Value.int _ _]) _ _ _); k_dflt (refine' (con_getL ?qM ?qI _ _ ?qA ?qL) _ _ _ _ _ _ _ _ _ _ _ _ _ _ _ _ _ ?e1 ?e2 ?e3 ?e4 ?e5 ?e6 ?e7 ?e8 ?_); (case e1 => k_dflt k_asm); (case e2 => k_dflt k_asm); (case e3 => k_dflt k_asm); (case e4 => k_dflt k_asm); (case e5 => k_dflt k_asm); (case e6 => k_dflt (first | exact rfl | assumption)); (case e7 => k_dflt ktr_room); (case e8 => k_dflt ktr_units); (case qM => k_dflt (k_mem)); (case qI => k_dflt (first | assumption | exact ints_set (by assumption) _)); (case qA => k_dflt (first | assumption | (simp only [List.length_set, up_len]; first | assumption | omega))); (case qL => k_dflt (first | assumption | (simp only [List.length_set, up_len, List.length_append, List.length_cons, List.length_nil]; first | assumption | omega))); intro r9 nx9 h9 tk9 F9 N9 e9; (obtain ⟨⟨k9, e9⟩, f9⟩ := e9); subst e9; subst f9; (try dsimp only); (try k_sweep); (try k_fold)))
local macro_rules | `(tactic| walk_at "call ref") => `(tactic| (k_here; (with_reducible show wpAny _ _ (call (Value.ref 70) [Value.ref _, Value.int _ _, Value.int _ _]) _ _ _); k_dflt (refine' (con_setD ?qU ?qD ?qS _ _ ?qL _ _) _ _ _ _ _ _ _ _ _ _ _ _ _ _ _ _ _ ?e1 ?e2 ?e3 ?e4 ?e5 ?e6 ?e7 ?e8 ?_); (case e1 => k_dflt k_asm); (case e2 => k_dflt k_asm); (case e3 => k_dflt k_asm); (case e4 => k_dflt k_asm); (case e5 => k_dflt k_asm); (case e6 => k_dflt (first | exact rfl | assumption)); (case e7 => k_dflt ktr_room); (case e8 => k_dflt ktr_units); (case qU => k_dflt (k_updF)); (case qD => k_dflt (assumption)); (case qS => k_dflt (assumption)); (case qL => k_dflt (first | assumption | (simp only [List.length_set, up_len, List.length_append, List.length_cons, List.length_nil]; first | assumption | omega))); intro r9 nx9 h9 tk9 F9 N9 e9; (obtain ⟨e9, o9, f9, d9⟩ := e9); subst e9; subst f9; (try dsimp only); (try k_sweep); (try k_fold)))
local macro_rules | `(tactic| walk_at "call ref") => `(tactic| (k_here; (with_reducible show wpAny _ _ (call (Value.ref 70) [Value.ref _, Value.int _ _, Value.int _ _]) _ _ _); k_dflt (refine' (con_setL _ _ ?qU ?qI _ ?qA ?qL) _ _ _ _ _ _ _ _ _ _ _ _ _ _ _ _ _ ?e1 ?e2 ?e3 ?e4 ?e5 ?e6 ?e7 ?e8 ?_); (case e1 => k_dflt k_asm); (case e2 => k_dflt k_asm); (case e3 => k_dflt k_asm); (case e4 => k_dflt k_asm); (case e5 => k_dflt k_asm); (case e6 => k_dflt (first | exact rfl | assumption)); (case e7 => k_dflt ktr_room); (case e8 => k_dflt ktr_units); (case qU => k_dflt (k_upd)); (case qI => k_dflt (first | assumption | exact ints_set (by assumption) _)); (case qA => k_dflt (first | assumption | (simp only [List.length_set, up_len]; first | assumption | omega))); (case qL => k_dflt (first | assumption | (simp only [List.length_set, up_len, List.length_append, List.length_cons, List.length_nil]; first | assumption | omega))); intro r9 nx9 h9 tk9 F9 N9 e9; (obtain ⟨e9, f9⟩ := e9); subst e9; subst f9; (try dsimp only); (try k_sweep); (try k_fold)))
local macro_rules | `(tactic| walk_at "call ref") => `(tactic| (k_here; (with_reducible show wpAny _ _ (call (Value.ref 156) _) _ _ _); k_dflt (refine' (con_push _ _ ?qX ?qd ?qP ?qU ?qL) _ _ _ _ _ _ _ _ _ _ _ _ _ _ _ _ _ ?e1 ?e2 ?e3 ?e4 ?e5 ?e6 ?e7 ?e8 ?_); (case e1 => k_dflt k_asm); (case e2 => k_dflt k_asm); (case e3 => k_dflt k_asm); (case e4 => k_dflt k_asm); (case e5 => k_dflt k_asm); (case e6 => k_dflt (first | exact rfl | assumption)); (case e7 => k_dflt ktr_room); (case e8 => k_dflt ktr_units); (case qX => k_dflt (k_mem)); (case qd => k_dflt (k_mem)); (case qP => k_dflt (k_mem)); (case qU => k_dflt (k_upd)); (case qL => k_dflt (first | assumption | (simp only [List.length_set, up_len, List.length_append, List.length_cons, List.length_nil]; first | assumption | omega))); intro r9 nx9 h9 tk9 F9 N9 e9; (obtain ⟨e9, f9⟩ := e9); subst e9; subst f9; (try dsimp only); (try k_sweep); (try k_fold)))
local macro_rules | `(tactic| walk_at "call ref") => `(tactic| (k_here; (with_reducible show wpAny _ _ (call (Value.ref 149) _) _ _ _); k_dflt (refine' (con_tok _ _ ?qX ?qd ?qP ?qU ?qL) _ _ _ _ _ _ _ _ _ _ _ _ _ _ _ _ _ ?e1 ?e2 ?e3 ?e4 ?e5 ?e6 ?e7 ?e8 ?_); (case e1 => k_dflt k_asm); (case e2 => k_dflt k_asm); (case e3 => k_dflt k_asm); (case e4 => k_dflt k_asm); (case e5 => k_dflt k_asm); (case e6 => k_dflt (first | exact rfl | assumption)); (case e7 => k_dflt ktr_room); (case e8 => k_dflt ktr_units); (case qX => k_dflt (k_mem)); (case qd => k_dflt (k_mem)); (case qP => k_dflt (k_mem)); (case qU => k_dflt (k_upd)); (case qL => k_dflt (first | assumption | (simp only [List.length_set, up_len, List.length_append, List.length_cons, List.length_nil]; first | assumption | omega))); intro r9 nx9 h9 tk9 F9 N9 e9; (obtain ⟨e9, f9⟩ := e9); subst e9; subst f9; (try dsimp only); (try k_sweep); (try k_fold)))
section
local macro_rules | `(tactic| walk_at "call ref") => `(tactic| (k_here; (with_reducible show wpAny _ _ (call (Value.ref 159) _) _ _ _); refine Hold.out ?_))
local macro_rules | `(tactic| k_upd) => `(tactic| first | exact ap2_0 (by assumption) | exact ap2_1 (by assumption) | exact ap4_0 (by assumption) | exact ap4_1 (by assumption) | exact ap4_2 (by assumption) | exact ap4_3 (by assumption) | exact ap5_0 (by assumption) | exact ap5_1 (by assumption) | exact ap5_2 (by assumption) | exact ap5_3 (by assumption) | exact ap5_4 (by assumption))
local macro_rules | `(tactic| k_updF) => `(tactic| first | exact apF4_0 (by assumption) | exact apF4_1 (by assumption) | exact apF5_1 (by assumption) | exact apF5_2 (by assumption))
theorem con_played {w : World} {mean : ExcName → Option Value} {mg mb : Str → Option Value} {S : Addr} {vs : List Value} {Ss : List Nat} {n : Nat} {a1 : Addr} {o1 : Obj} (hi : IntsAre vs (up Ss)) (hS : ∀ s ∈ Ss, 1 ≤ s ∧ s < 16) (hl : Ss.length ≤ 5) (hn : Ss.Nodup) {Dp Gr : Nat → Nat} (hDp : DepthOf Ss Dp) (hGr : ∀ r, r < 16 → mex (nearP Gr Ss r) = Gr r) :
    Con w mean mg mb 213 60 400 [(S, listOf vs.toArray n), (a1, o1)] [.ref S] (fun r nx => ∃ Dt Wd Rd oW oR dn, r = .ref Dt ∧ nx = [(Dt, tup2 Wd Rd), (Rd, oR), (Wd, oW), (S, listOf vs.toArray n), (a1, o1)] ∧ IntDict w oW (ptab Gr dn) ∧ IntDict w oR (ptab Dp dn) ∧ dn.Nodup ∧ (∀ r, r ∈ dn ↔ r < 16) ∧ (Wd == sysModules) = false ∧ (Rd == sysModules) = false) := by
  unfold Con
  w_top off
  k_fill
  intro dp un gd cn cs a ccd cl outer A₀ base h₀ L m s Q E B F X N Tp hk hd hu hret
  refine wpAny_call ?_
  refine' code_def (binds := [(Str.ofString "moves", Value.ref S)]) ?c1 ?c2 ?c3 ?c4 ?c5 ?cA ?cF ?cK ?c6 ?c7 ?c8 ?c9 ?cB ?_ ?d2 ?d3 ?d4 ?d5
  case cA => exact rfl
  case cF => exact rfl
  case cK => assumption
  case c1 => k_asm
  case c2 => k_asm
  case c3 => k_asm
  case c4 => k_asm
  case c5 => k_asm
  case c6 => k_dflt k_is
  case c7 => k_dflt k_is
  case c8 => ktr_room
  case c9 => exact BindsTo.of_eq (by kernel_rfl)
  case d5 => decide
  case cB => exact locs rfl
  case d2 => exact rfl
  case d3 => exact rfl
  case d4 => exact rfl
  intro g0 L0 h0' FG0 F0 N0 B0 X0 T0
  simp only [List.reverse_cons, List.reverse_nil, List.nil_append] at F0
  k_fold
  k_steps
  refine ⟨?_⟩
  refine' con_line S _ a1 o1 _ _ _ _ _ _ _ _ _ _ _ _ _ _ _ _ _ _ ?e1 ?e2 ?e3 ?e4 ?e5 ?e6 ?e7 ?e8 ?_
  case e1 => k_asm
  case e2 => k_asm
  case e3 => k_asm
  case e4 => k_asm
  case e5 => k_asm
  case e6 => exact rfl
  case e7 => ktr_room
  case e8 => ktr_units
  rintro _ _ h1 tk1 F1 N1 ⟨x, d, pb, t0, t1, t2, t3, t4, t5, t6, rfl, rfl, lxp, ldx, lSd, lad⟩
  replace lxp := ltN lxp
  replace ldx := ltN ldx
  replace lSd := ltN lSd
  replace lad := ltN lad
  k_steps
  refine ⟨?_⟩
  rename Fr _ _ _ _ => lF
  rename News _ _ _ _ => lN
  rename IsRange _ _ _ _ _ _ _ _ => lR
  rename IntsAre _ (List.flatten _) => hI0
  obtain ⟨Uw, rfl⟩ := nm1 lN
  obtain ⟨vU0, hv0⟩ := nmV hI0
  rw [← hv0] at hI0 lN
  rename _ < Uw ∧ pb < Uw ∧ _ => lUw
  have hU0 : IntsAre vU0 (up (List.replicate 16 0)) := hI0
  refine kst_range (n := 16) (σ := (List Value × List Nat × Nat) × (List Value × List Nat × Nat)) (fun c => [(Uw, listOf c.1.1.toArray c.1.2.2), (pb, listOf c.2.1.toArray c.2.2.2), (x, instObj 159 d), (d, dictOf (lineEs w.params t0 t1 t2 t3 t4 t5 t6 pb) 4), (S, listOf vs.toArray n), (a1, o1)]) (fun _ => [])
    (fun c => IntsAre c.1.1 (up c.1.2.1) ∧ IntsAre c.2.1 (up c.2.2.1)) [Str.ofString "move"]
    (fun pre c => c.1.2.1.length = 16 ∧ (∀ q, q < 16 → c.1.2.1.getD q 0 = if q < pre.length then cntOf Ss [] q else 0) ∧ c.2.2.1 = wrd ((List.range pre.length).filter fun q => decide (cntOf Ss [] q = 0)))
    ((vU0, List.replicate 16 0, 0), ([], [], 0)) rfl lR (by decide) rfl lF (kst_newsOf lN (by kst_in)) ⟨hU0, .nil⟩ (fun _ h => nomatch h) ⟨rfl, (fun q hq => by
      show (List.replicate 16 0).getD q 0 = _
      rw [List.getD_eq_getElem?_getD, List.getElem?_replicate, if_pos hq]; rfl), rfl⟩ ?_ ?_
  · rintro ⟨⟨vU, U, cU⟩, ⟨vQ, Qq, cQ⟩⟩ pre k t u h tk own he hlt hoff hfa hinv Fx Nx
    dsimp only [kstB] at Fx
    dsimp only at hfa hinv
    simp only [List.cons_append, List.nil_append] at Nx
    simp only [List.map_cons, List.map_nil] at hoff
    obtain ⟨fU, fQ⟩ := hfa
    obtain ⟨hUl, hUv, hQv⟩ := hinv
    generalize hrow : pre.length = row at *
    have he' : k = (row : Int) := by omega
    subst he'
    have hzQ : vQ.length ≤ 60 := by
      rw [fQ.length, up_len, hQv]
      unfold wrd
      rw [List.length_map]
      have := List.length_filter_le (fun q => decide (cntOf Ss [] q = 0)) (List.range row)
      rw [List.length_range] at this
      omega
    generalize hP : InvPostN _ _ _ _ _ _ _ = P
    k_steps
    refine ⟨?_⟩
    rename Fr _ _ _ _ => lF
    rename News _ _ _ _ => lN
    refine kst_listL (σ := List Value × List Nat × Nat) (fun c => (Uw, listOf c.1.toArray c.2.2) :: (pb, listOf vQ.toArray cQ) :: (x, instObj 159 d) :: (d, dictOf (lineEs w.params t0 t1 t2 t3 t4 t5 t6 pb) 4) :: (S, listOf vs.toArray n) :: (a1, o1) :: own) (fun _ => []) (fun c => IntsAre c.1 (up c.2.1)) []
      (fun pre c => c.2.1.length = 16 ∧ (∀ q, q ≠ row → c.2.1.getD q 0 = U.getD q 0) ∧ c.2.1.getD row 0 = cntOf (pre.map Int.toNat) [] row) (vU, U, cU)
      rfl (fun c => List.Mem.tail _ (List.Mem.tail _ (List.Mem.tail _ (List.Mem.tail _ (List.Mem.head _))))) hi lF lN fU (fun _ h => nomatch h) ⟨hUl, fun _ _ => rfl, by
        show U.getD row 0 = _
        rw [hUv row hlt, if_neg (Nat.lt_irrefl _)]; rfl⟩ ?_ ?_
    · rintro ⟨v2, U2, c2⟩ pre2 post2 k2 t2' u2 h2 tk2 own2 he2 hmem2 hoff2 hfa2 hinv2 Fx2 Nx2
      dsimp only [kstB] at Fx2
      dsimp only at hfa2 hinv2
      simp only [List.cons_append, List.nil_append] at Nx2
      simp only [List.map_cons, List.map_nil] at hoff2
      obtain ⟨sv, hsv, rfl⟩ := mem_up hmem2
      obtain ⟨hl2, ho2, hr2⟩ := hinv2
      generalize hP2 : InvPostN _ _ _ _ _ _ _ = P2
      k_steps
      all_goals subst hP2
      all_goals rename News g0 L0 _ _ => lN2
      · rename ((row ^^^ sv : Nat) : Int) < _ => hlt2
        refine kst_end (σ := List Value × List Nat × Nat) (v2.set row _, U2.set row (U2.getD row 0 + 1), c2) (by assumption) lN2 (inL (own := own2) rfl) (by intro p hp; kst_mem) rfl (ints_set_up hfa2 (by rw [up_getD]; rfl)) (by kst_all) (by kst_same) ?_
        refine ⟨by rw [List.length_set]; exact hl2, fun q hq => ?_, ?_⟩
        · show (U2.set row _).getD q 0 = _
          rw [getD_set (by omega), if_neg hq, ho2 q hq]
        · show (U2.set row _).getD row 0 = _
          rw [getD_set (by omega), if_pos rfl, hr2, List.map_append, cntOf_append]
          show _ = _ + cntOf [sv] [] row
          rw [cntOf_one, if_pos (by omega)]
      · rename ¬ ((row ^^^ sv : Nat) : Int) < _ => hlt2
        refine kst_end (σ := List Value × List Nat × Nat) (v2, U2, c2) (by assumption) lN2 (inL (own := own2) rfl) (by intro p hp; kst_mem) rfl hfa2 (by kst_all) (by kst_same) ?_
        refine ⟨hl2, ho2, ?_⟩
        rw [List.map_append, cntOf_append, hr2]
        show _ = _ + cntOf [sv] [] row
        rw [cntOf_one, if_neg (by omega)]
        rfl
    · rintro ⟨v2, U2, c2⟩ u2 h2 tk2 hfa2 hinv2 Fx2 Nx2
      dsimp only [kstB] at Fx2
      dsimp only at hfa2 hinv2 Nx2
      rw [up_toNat] at hinv2
      obtain ⟨hl2, ho2, hr2⟩ := hinv2
      k_steps
      all_goals subst hP
      all_goals rename News g0 L0 _ _ => lN3
      · rename List.getD (up _) _ _ = _ => hz3
        rw [up_getD, hr2] at hz3
        simp only [List.push_toArray] at lN3
        refine kst_end (σ := (List Value × List Nat × Nat) × (List Value × List Nat × Nat)) ((v2, U2, c2), (vQ ++ [Value.int (256 + (row : Int)) _], Qq ++ [256 + row], cQ + 1)) (by assumption) lN3 (by kst_in) (by intro p hp; kst_mem) rfl ⟨hfa2, ?_⟩ (by kst_all) (by kst_same) ?_
        · show IntsAre _ (up (Qq ++ [256 + row]))
          rw [up_append]; exact fQ.append (.cons _ _ .nil)
        · show U2.length = 16 ∧ _ ∧ Qq ++ [256 + row] = _
          rw [List.length_append, hrow, show [(row : Int)].length = 1 from rfl]
          refine ⟨hl2, fun q hq => ?_, ?_⟩
          · show U2.getD q 0 = _
            by_cases hqr : q = row
            · rw [hqr, hr2, if_pos (by omega)]
            · rw [ho2 q hqr, hUv q hq]
              by_cases h : q < row
              · rw [if_pos h, if_pos (by omega)]
              · rw [if_neg h, if_neg (by omega)]
          · rw [List.range_succ, List.filter_append, wrd_append, ← hQv, List.filter_cons_of_pos (by simp; omega)]
            rfl
      · rename ¬ (List.getD (up _) _ _ = _) => hz3
        rw [up_getD, hr2] at hz3
        refine kst_end (σ := (List Value × List Nat × Nat) × (List Value × List Nat × Nat)) ((v2, U2, c2), (vQ, Qq, cQ)) (by assumption) lN3 (by kst_in) (by intro p hp; kst_mem) rfl ⟨hfa2, fQ⟩ (by kst_all) (by kst_same) ?_
        show U2.length = 16 ∧ _ ∧ Qq = _
        rw [List.length_append, hrow, show [(row : Int)].length = 1 from rfl]
        refine ⟨hl2, fun q hq => ?_, ?_⟩
        · show U2.getD q 0 = _
          by_cases hqr : q = row
          · rw [hqr, hr2, if_pos (by omega)]
          · rw [ho2 q hqr, hUv q hq]
            by_cases h : q < row
            · rw [if_pos h, if_pos (by omega)]
            · rw [if_neg h, if_neg (by omega)]
        · rw [List.range_succ, List.filter_append, wrd_append, ← hQv, List.filter_cons_of_neg (by simp; omega)]
          simp [wrd]
  · rintro ⟨⟨vU, U, cU⟩, ⟨vQ, Qq, cQ⟩⟩ u h tk hfa hinv Fx Nx
    dsimp only [kstB] at Fx
    dsimp only at hfa hinv Nx
    rw [rangeKs_length] at hinv
    obtain ⟨fU, fQ⟩ := hfa
    obtain ⟨hUl, hUv, hQv⟩ := hinv
    have hzQ : vQ.length ≤ 60 := by
      rw [fQ.length, up_len, hQv]
      unfold wrd
      rw [List.length_map]
      have := List.length_filter_le (fun q => decide (cntOf Ss [] q = 0)) (List.range 16)
      rw [List.length_range] at this
      omega
    k_steps
    refine ⟨?_⟩
    rename Fr _ _ _ _ => lF
    rename News _ _ _ _ => lN
    simp only [List.push_toArray] at lN
    rename IsRange _ _ _ _ _ _ _ _ => lR2
    obtain ⟨Rd, rfl⟩ := nm1 lN
    obtain ⟨Wd, rfl⟩ := nm2 lN
    obtain ⟨oR, rfl⟩ := nmO1 lN
    obtain ⟨oW, rfl⟩ := nmO2 lN
    rename Wd < Rd ∧ _ => lRd
    rename _ < Wd ∧ _ => lWd
    have sysR : (Rd == sysModules) = false := by assumption
    have sysW : (Wd == sysModules) = false := by assumption
    have dR0 : IntDict w oR [] := ⟨[], by assumption, by assumption⟩
    have dW0 : IntDict w oW [] := ⟨[], by assumption, by assumption⟩
    have hAp4 : Apart [Rd, Wd, Uw, pb] [(x, instObj 159 d), (d, dictOf (lineEs w.params t0 t1 t2 t3 t4 t5 t6 pb) 4), (S, listOf vs.toArray n), (a1, o1)] := by
      refine ⟨?_, ?_⟩
      · simp only [List.pairwise_cons, List.mem_cons, List.not_mem_nil, or_false, forall_eq_or_imp, forall_eq, false_implies, implies_true, List.Pairwise.nil, and_true]
        refine ⟨⟨?_, ?_, ?_⟩, ⟨?_, ?_⟩, ?_⟩ <;> k_ne
      · simp only [List.mem_cons, List.not_mem_nil, or_false, forall_eq_or_imp, forall_eq]
        refine ⟨⟨?_, ?_, ?_, ?_⟩, ⟨?_, ?_, ?_, ?_⟩, ⟨?_, ?_, ?_, ?_⟩, ?_, ?_, ?_, ?_⟩ <;> k_ne
    refine kst_range (n := 31) (σ := (List Value × List Nat × Nat) × (List Value × List Nat × Nat) × (Obj × List (Int × Int)) × (Obj × List (Int × Int)) × (Nat × Tok)) (fun c => [(Rd, c.2.2.2.1.1), (Wd, c.2.2.1.1), (Uw, listOf c.1.1.toArray c.1.2.2), (pb, listOf c.2.1.1.toArray c.2.1.2.2), (x, instObj 159 d), (d, dictOf (lineEs w.params t0 t1 t2 t3 t4 t5 t6 pb) 4), (S, listOf vs.toArray n), (a1, o1)]) (fun c => [(Str.ofString "gone", Value.int (c.2.2.2.2.1 : Int) c.2.2.2.2.2)])
      (fun c => IntsAre c.1.1 (up c.1.2.1) ∧ IntsAre c.2.1.1 (up c.2.1.2.1) ∧ IntDict w c.2.2.1.1 c.2.2.1.2 ∧ IntDict w c.2.2.2.1.1 c.2.2.2.1.2) [Str.ofString "word", Str.ofString "row", Str.ofString "near", Str.ofString "move", Str.ofString "other", Str.ofString "worth"]
      (fun pre c => ∃ cur nxt dn, InvAt Ss Dp Gr pre.length c.1.2.1 c.2.1.2.1 c.2.2.1.2 c.2.2.2.1.2 c.2.2.2.2.1 cur nxt dn)
      ((vU, U, cU), (vQ ++ [Value.int 0 _], Qq ++ [0], cQ + 1), (oW, []), (oR, []), (0, _)) rfl lR2 (by decide) rfl lF (kst_newsOf lN (by kst_in)) ⟨fU, by
        show IntsAre _ (up (Qq ++ [0]))
        rw [up_append]; exact fQ.append (.cons _ _ .nil), dW0, dR0⟩ (by kst_all) ⟨_, _, _, by
        show InvAt Ss Dp Gr 0 U (Qq ++ [0]) [] [] 0 _ _ _
        rw [hQv]
        exact inv_init hDp hUl fun q hq => by rw [hUv q hq, if_pos hq]⟩ ?_ ?_
    · rintro ⟨⟨vU2, U2, cU2⟩, ⟨vQ2, Q2, cQ2⟩, ⟨oW2, cW⟩, ⟨oR2, cR⟩, ⟨g, gt⟩⟩ pre k3 tk3 u3 h3 tok3 own3 he3 hlt3 hoff3 hfa3 hinv3 Fx3 Nx3
      dsimp only [kstB] at Fx3
      dsimp only at hfa3 hinv3
      simp only [List.cons_append, List.nil_append] at Nx3
      simp only [List.map_cons, List.map_nil] at hoff3
      obtain ⟨fU2, fQ2, dW2, dR2⟩ := hfa3
      obtain ⟨cur, nxt, dn, I⟩ := hinv3
      have hAp3 := hAp4.more hoff3 (by simp)
      simp only [List.cons_append, List.nil_append] at hAp3
      generalize hP3 : InvPostN _ _ _ _ _ _ _ = P3
      have hsh := I.short
      cases cur with
      | nil =>
        obtain ⟨hq, I2⟩ := inv_mark hDp I
        subst hq
        obtain ⟨tq, vQ3, rfl, fQ3⟩ := ints_cons fQ2
        have hz3 : vQ3.length ≤ 60 := by
          have := fQ3.length
          rw [List.length_map, List.length_cons] at *
          omega
        k_steps
        subst hP3
        rename News g0 L0 _ _ => lN3
        simp only [List.push_toArray] at lN3
        refine kst_end (σ := (List Value × List Nat × Nat) × (List Value × List Nat × Nat) × (Obj × List (Int × Int)) × (Obj × List (Int × Int)) × (Nat × Tok)) ((vU2, U2, cU2), (vQ3 ++ [Value.int ((0 : Nat) : Int) tq], wrd nxt ++ [0], cQ2 + 1 + 1), (oW2, cW), (oR2, cR), (g + 1, _)) (by assumption) lN3 (by kst_in) (by intro p hp; kst_mem) rfl ⟨fU2, ?_, dW2, dR2⟩ (by kst_all) (by kst_same) ?_
        · show IntsAre _ (up (wrd nxt ++ [0]))
          rw [up_append]; exact fQ3.append (.cons _ _ .nil)
        · refine ⟨nxt, [], dn, ?_⟩
          rw [List.length_append, List.length_cons, List.length_nil]
          exact I2
      | cons r cur =>
        obtain rfl : Q2 = (256 + r) :: (wrd cur ++ 0 :: wrd nxt) := I.hQ
        obtain ⟨tq, vQ3, rfl, fQ3⟩ := ints_cons fQ2
        obtain ⟨hr16, hrg, hrd⟩ := I.fresh
        have hlQ : (wrd cur ++ 0 :: wrd nxt).length ≤ 33 := by
          have h3 := hsh.1
          rw [List.length_cons] at h3
          omega
        have hlQ3 : vQ3.length ≤ 33 := by
          have h1 : vQ3.length = (up (wrd cur ++ 0 :: wrd nxt)).length := fQ3.length
          rw [h1, up_len]; exact hlQ
        have hz3 : vQ3.length ≤ 60 := by omega
        have hU2l := I.hl
        k_steps
        refine ⟨?_⟩
        rename Fr _ _ _ _ => lF
        rename News _ _ _ _ => lN
        obtain ⟨Nr, rfl⟩ := nm1 lN
        rename _ < Nr ∧ _ => lNr
        have hNo := ne_of_allLt lNr.2.2.2.2.2.2.2.2
        have hAp5 : Apart [Nr, Rd, Wd, Uw, pb] _ := hAp3.cons (by
          simp only [List.mem_cons, List.not_mem_nil, or_false, forall_eq_or_imp, forall_eq]
          refine ⟨?_, ?_, ?_, ?_⟩ <;> k_ne) (off_cons (by k_ne) (off_cons (by k_ne) (off_cons (by k_ne) (off_cons (by k_ne) hNo))))
        refine kst_listL (σ := (List Value × List Nat × Nat) × (List Value × List Nat × Nat) × (List Value × List Nat × Nat)) (fun c => (Nr, listOf c.2.2.1.toArray c.2.2.2.2) :: (Rd, oR2) :: (Wd, oW2) :: (Uw, listOf c.1.1.toArray c.1.2.2) :: (pb, listOf c.2.1.1.toArray c.2.1.2.2) :: (x, instObj 159 d) :: (d, dictOf (lineEs w.params t0 t1 t2 t3 t4 t5 t6 pb) 4) :: (S, listOf vs.toArray n) :: (a1, o1) :: own3) (fun _ => [])
          (fun c => IntsAre c.1.1 (up c.1.2.1) ∧ IntsAre c.2.1.1 (up c.2.1.2.1) ∧ IntsAre c.2.2.1 (up c.2.2.2.1)) [Str.ofString "other"]
          (fun pre c => c.1.2.1.length = 16 ∧ (∀ q, q < 16 → c.1.2.1.getD q 0 = U2.getD q 0 - (if r < q ∧ q ^^^ r ∈ pre.map Int.toNat then 1 else 0)) ∧ c.2.1.2.1 = wrd cur ++ 0 :: wrd nxt ++ wrd (pushP U2 (pre.map Int.toNat) r) ∧ c.2.2.2.1 = nearP Gr (pre.map Int.toNat) r)
          ((vU2, U2, cU2), (vQ3, wrd cur ++ 0 :: wrd nxt, _), ([], [], 0))
          rfl (fun c => List.Mem.tail _ (List.Mem.tail _ (List.Mem.tail _ (List.Mem.tail _ (List.Mem.tail _ (List.Mem.tail _ (List.Mem.tail _ (List.Mem.head _)))))))) hi lF lN ⟨fU2, fQ3, .nil⟩ (fun _ h => nomatch h) ⟨hU2l, fun q hq => by
            show _ = _ - (if r < q ∧ q ^^^ r ∈ [] then 1 else 0)
            simp, (List.append_nil _).symm, rfl⟩ ?_ ?_
        · rintro ⟨⟨v4, U4, c4⟩, ⟨vQ4, Q4, cQ4⟩, ⟨vN4, N4, cN4⟩⟩ pre4 post4 k4 tk4 u4 h4 tok4 own4 he4 hmem4 hoff4 hfa4 hinv4 Fx4 Nx4
          dsimp only [kstB] at Fx4
          dsimp only at hfa4 hinv4
          simp only [List.cons_append, List.nil_append] at Nx4
          simp only [List.map_cons, List.map_nil] at hoff4
          obtain ⟨sv, hsv, rfl⟩ := mem_up hmem4
          obtain ⟨fU4, fQ4, fN4⟩ := hfa4
          obtain ⟨hl4, hU4, hQ4, hN4⟩ := hinv4
          have heS : Ss = pre4.map Int.toNat ++ sv :: post4.map Int.toNat := by
            rw [← up_toNat Ss, he4, List.map_append, List.map_cons, Int.toNat_natCast]
          obtain ⟨P4, hP4⟩ : ∃ P4, P4 = pre4.map Int.toNat := ⟨_, rfl⟩
          rw [← hP4] at heS hQ4 hN4
          simp only [← hP4] at hU4
          have hPl : P4.length + 1 ≤ 5 := by
            have := congrArg List.length heS
            simp only [List.length_append, List.length_cons] at this
            omega
          have hsP : sv ∉ P4 := fun hm => by
            rw [heS] at hn
            exact (List.nodup_append.mp hn).2.2 sv hm sv List.mem_cons_self rfl
          have hx16 : r ^^^ sv < 16 := xor_lt16 hr16 (hS sv hsv).2
          have hzQ4 : vQ4.length ≤ 60 := by
            have h3 : (wrd (pushP U2 P4 r)).length ≤ P4.length := by unfold wrd; rw [List.length_map]; exact pushP_len U2 P4 r
            rw [fQ4.length, up_len, hQ4, List.length_append]
            omega
          have hzN4 : vN4.length ≤ 60 := by
            rw [fN4.length, up_len, hN4]
            have := nearP_len Gr P4 r
            omega
          have hX : ((r ^^^ sv : Nat) : Int) < (r : Int) → kdfHas cW ((r ^^^ sv : Nat) : Int) = true := fun hlt => by
            rw [I.hW, ptab_has]
            exact decide_eq_true (I.below hDp hsv (by omega))
          have hAp6 := hAp5.more hoff4 (by simp)
          simp only [List.cons_append, List.nil_append] at hAp6
          generalize hPP : InvPostN _ _ _ _ _ _ _ = PP
          k_steps
          all_goals subst hPP
          all_goals rename News g0 L0 _ _ => lN6
          · rename ((r ^^^ sv : Nat) : Int) < _ => hlt6
            have hlt7 : r ^^^ sv < r := by omega
            simp only [List.push_toArray] at lN6
            rw [I.hW, ptab_look _ _ _ (I.below hDp hsv hlt7)] at lN6
            refine kst_end (σ := (List Value × List Nat × Nat) × (List Value × List Nat × Nat) × (List Value × List Nat × Nat)) ((v4, U4, c4), (vQ4, Q4, cQ4), (vN4 ++ [Value.int ((Gr (r ^^^ sv) : Nat) : Int) _], N4 ++ [Gr (r ^^^ sv)], cN4 + 1)) (by assumption) lN6 (inL (own := own4) rfl) (by intro p hp; kst_mem) rfl ⟨fU4, fQ4, ?_⟩ (by kst_all) (by kst_same) ?_
            · show IntsAre _ (up (N4 ++ [Gr (r ^^^ sv)]))
              rw [up_append]; exact fN4.append (.cons _ _ .nil)
            · show U4.length = 16 ∧ _ ∧ Q4 = _ ∧ N4 ++ [Gr (r ^^^ sv)] = _
              rw [show (pre4 ++ [(sv : Int)]).map Int.toNat = P4 ++ [sv] by rw [List.map_append, ← hP4]; rfl]
              refine ⟨hl4, turnU_low hU4 hlt7, ?_, ?_⟩
              · rw [pushP_append, pushP_one, if_neg (fun h => h.1 hlt7), List.append_nil]; exact hQ4
              · rw [nearP_append, nearP_one, if_pos hlt7, hN4]
          · rename ¬ ((r ^^^ sv : Nat) : Int) < _ => hlt6
            have hlt7 : ¬ r ^^^ sv < r := by omega
            obtain ⟨hgt, _, hpos⟩ := I.above hS hsv hlt7
            obtain ⟨hsame, hU5⟩ := turnU_high hU4 hl4 hx16 hgt hsP
            rename List.getD (List.set _ _ _) _ _ = _ => hz6
            rw [getD_set_int (by rw [up_len, hl4]; exact hx16), up_getD, hsame] at hz6
            simp only [List.push_toArray] at lN6
            refine kst_end (σ := (List Value × List Nat × Nat) × (List Value × List Nat × Nat) × (List Value × List Nat × Nat)) ((v4.set (r ^^^ sv) _, U4.set (r ^^^ sv) (U2.getD (r ^^^ sv) 0 - 1), c4), (vQ4 ++ [Value.int (256 + ((r ^^^ sv : Nat) : Int)) _], Q4 ++ [256 + (r ^^^ sv)], cQ4 + 1), (vN4, N4, cN4)) (by assumption) lN6 (inL (own := own4) rfl) (by intro p hp; kst_mem) rfl ⟨ints_set_up fU4 (by rw [up_getD, hsame]; omega), ?_, fN4⟩ (by kst_all) (by kst_same) ?_
            · show IntsAre _ (up (Q4 ++ [256 + (r ^^^ sv)]))
              rw [up_append]; exact fQ4.append (.cons _ _ .nil)
            · show (U4.set _ _).length = 16 ∧ _ ∧ Q4 ++ [256 + (r ^^^ sv)] = _ ∧ N4 = _
              rw [show (pre4 ++ [(sv : Int)]).map Int.toNat = P4 ++ [sv] by rw [List.map_append, ← hP4]; rfl]
              refine ⟨by rw [List.length_set]; exact hl4, hU5, ?_, ?_⟩
              · rw [pushP_append, pushP_one, if_pos ⟨hlt7, by omega⟩, wrd_append, ← List.append_assoc, ← hQ4]; rfl
              · rw [nearP_append, nearP_one, if_neg hlt7, List.append_nil]; exact hN4
          · rename ¬ ((r ^^^ sv : Nat) : Int) < _ => hlt6
            have hlt7 : ¬ r ^^^ sv < r := by omega
            obtain ⟨hgt, _, hpos⟩ := I.above hS hsv hlt7
            obtain ⟨hsame, hU5⟩ := turnU_high hU4 hl4 hx16 hgt hsP
            rename ¬ (List.getD (List.set _ _ _) _ _ = _) => hz6
            rw [getD_set_int (by rw [up_len, hl4]; exact hx16), up_getD, hsame] at hz6
            refine kst_end (σ := (List Value × List Nat × Nat) × (List Value × List Nat × Nat) × (List Value × List Nat × Nat)) ((v4.set (r ^^^ sv) _, U4.set (r ^^^ sv) (U2.getD (r ^^^ sv) 0 - 1), c4), (vQ4, Q4, cQ4), (vN4, N4, cN4)) (by assumption) lN6 (inL (own := own4) rfl) (by intro p hp; kst_mem) rfl ⟨ints_set_up fU4 (by rw [up_getD, hsame]; omega), fQ4, fN4⟩ (by kst_all) (by kst_same) ?_
            show (U4.set _ _).length = 16 ∧ _ ∧ Q4 = _ ∧ N4 = _
            rw [show (pre4 ++ [(sv : Int)]).map Int.toNat = P4 ++ [sv] by rw [List.map_append, ← hP4]; rfl]
            refine ⟨by rw [List.length_set]; exact hl4, hU5, ?_, ?_⟩
            · rw [pushP_append, pushP_one, if_neg (fun h => by omega), List.append_nil]; exact hQ4
            · rw [nearP_append, nearP_one, if_neg hlt7, List.append_nil]; exact hN4
        · rintro ⟨⟨v4, U4, c4⟩, ⟨vQ4, Q4, cQ4⟩, ⟨vN4, N4, cN4⟩⟩ u4 h4 tok4 hfa4 hinv4 Fx4 Nx4
          dsimp only [kstB] at Fx4
          dsimp only at hfa4 hinv4 Nx4
          rw [up_toNat] at hinv4
          obtain ⟨fU4, fQ4, fN4⟩ := hfa4
          obtain ⟨hl4, hU4, hQ4, hN4⟩ := hinv4
          k_steps
          refine ⟨?_⟩
          rename Fr _ _ _ _ => lF
          rename News _ _ _ _ => lN
          have hcW60 : cW.length ≤ 60 := by rw [I.hW, ptab_len]; omega
          have hcR60 : cR.length ≤ 60 := by rw [I.hR, ptab_len]; omega
          refine ksw_while (σ := Nat × Tok) (fun _ => (Nr, listOf vN4.toArray cN4) :: (Rd, oR2) :: (Wd, oW2) :: (Uw, listOf v4.toArray c4) :: (pb, listOf vQ4.toArray cQ4) :: (x, instObj 159 d) :: (d, dictOf (lineEs w.params t0 t1 t2 t3 t4 t5 t6 pb) 4) :: (S, listOf vs.toArray n) :: (a1, o1) :: own3) (fun c => [(Str.ofString "worth", Value.int (c.1 : Int) c.2)]) (fun _ => True) [] (fun c => ∀ v, v < c.1 → v ∈ N4) (fun c => N4.length - c.1) (0, _)
            lF lN trivial (by kst_all) (fun v hv => absurd hv (Nat.not_lt_zero v)) ?_
          rintro ⟨w5, tw5⟩ u5 h5 tok5 hfa5 hinv5 Fx5 Nx5
          dsimp only [kstB] at Fx5
          dsimp only at hinv5 Nx5
          generalize hP5 : KswPost _ _ _ _ _ _ _ _ _ _ _ _ = P5
          k_steps
          all_goals rename List.any _ _ = _ => hq5
          all_goals rw [up_any] at hq5
          · subst hP5
            have hq6 : w5 ∈ N4 := of_decide_eq_true hq5
            have hnew : ∀ v, v < w5 + 1 → v ∈ N4 := fun v hv => by
              rcases Nat.lt_or_ge v w5 with c | c
              · exact hinv5 v c
              · have : v = w5 := by omega
                rw [this]; exact hq6
            have hlen := holes _ _ hnew
            refine ksw_end (σ := Nat × Tok) (w5 + 1, _) (by assumption) (by assumption) (fun _ hp => hp) trivial (by kst_all) (by ksw_same) hnew ?_
            show N4.length - (w5 + 1) < N4.length - w5
            omega
          · subst hP3
            have hq6 : w5 ∉ N4 := of_decide_eq_false hq5
            have hw5 : w5 = Gr r := by rw [← hGr r hr16, ← hN4, isMex_unique (fun _ => Iff.rfl) (mex_is N4) ⟨hq6, hinv5⟩]
            rename News g0 L0 _ _ => lN7
            have lN8 := kst_newsOf lN7 (fun p hp => List.mem_cons_of_mem _ hp)
            obtain ⟨oR5, rfl⟩ := nmO1 lN8
            obtain ⟨oW5, rfl⟩ := nmO2 lN8
            refine kst_end (σ := (List Value × List Nat × Nat) × (List Value × List Nat × Nat) × (Obj × List (Int × Int)) × (Obj × List (Int × Int)) × (Nat × Tok)) ((v4, U4, c4), (vQ4, Q4, cQ4), (oW5, kdfPut cW r w5), (oR5, kdfPut cR r g), (g, gt)) (by assumption) lN8 (inL (own := own3) rfl) (by intro p hp; kst_mem) rfl ⟨fU4, fQ4, by assumption, by assumption⟩ (by kst_all) (by kst_same) ?_
            refine ⟨cur, nxt ++ pushP U2 Ss r, dn ++ [r], ?_⟩
            show InvAt Ss Dp Gr (pre ++ [k3]).length U4 Q4 (kdfPut cW r w5) (kdfPut cR r g) g _ _ _
            rw [List.length_append, List.length_cons, List.length_nil, hQ4, I.hW, I.hR, ptab_put Gr dn r w5 hrd hw5, ptab_put Dp dn r g hrd hrg.symm]
            exact inv_row hDp hn I hl4 hU4
    · rintro ⟨⟨vU2, U2, cU2⟩, ⟨vQ2, Q2, cQ2⟩, ⟨oW2, cW⟩, ⟨oR2, cR⟩, ⟨g, gt⟩⟩ u3 h3 tok3 hfa3 hinv3 Fx3 Nx3
      dsimp only [kstB] at Fx3
      dsimp only at hfa3 hinv3 Nx3
      rw [rangeKs_length] at hinv3
      obtain ⟨fU2, fQ2, dW2, dR2⟩ := hfa3
      obtain ⟨cur, nxt, dn, I⟩ := hinv3
      k_steps
      rename News h₀ L _ _ => lN9
      obtain ⟨Dt, rfl⟩ := nm1 lN9
      rw [I.hW] at dW2
      rw [I.hR] at dR2
      exact hret _ _ _ _ (by assumption) (kst_newsOf (l' := [(Dt, tup2 Wd Rd), (Rd, oR2), (Wd, oW2), (S, listOf vs.toArray n), (a1, o1)]) lN9 (by kst_in)) ⟨Dt, Wd, Rd, oW2, oR2, dn, rfl, rfl, dW2, dR2, I.hdn, fun r => ⟨fun hr => ((I.hd r).mp hr).1, inv_all hDp I r⟩, sysW, sysR⟩
end
section
local macro_rules | `(tactic| walk_at "call ref") => `(tactic| (k_here; (with_reducible show wpAny _ _ (call (Value.ref 42) [Value.int _ _, Value.int _ _]) _ _ _); k_dflt (refine' (con_subN _ _ _ _) _ _ _ _ _ _ _ _ _ _ _ _ _ _ _ _ _ ?e1 ?e2 ?e3 ?e4 ?e5 ?e6 ?e7 ?e8 ?_); (case e1 => k_dflt k_asm); (case e2 => k_dflt k_asm); (case e3 => k_dflt k_asm); (case e4 => k_dflt k_asm); (case e5 => k_dflt k_asm); (case e6 => k_dflt (first | exact rfl | assumption)); (case e7 => k_dflt ktr_room); (case e8 => k_dflt ktr_units); intro r9 nx9 h9 tk9 F9 N9 e9; (obtain ⟨⟨k9, e9⟩, f9⟩ := e9); subst e9; subst f9; (try dsimp only); (try k_sweep); (try k_fold)))
local macro_rules | `(tactic| walk_at "call ref") => `(tactic| (k_here; (with_reducible show wpAny _ _ (call (Value.ref 35) [Value.int _ _, Value.int _ _]) _ _ _); k_dflt (refine' (con_lshift _ _ _ ?qK) _ _ _ _ _ _ _ _ _ _ _ _ _ _ _ _ _ ?e1 ?e2 ?e3 ?e4 ?e5 ?e6 ?e7 ?e8 ?_); (case e1 => k_dflt k_asm); (case e2 => k_dflt k_asm); (case e3 => k_dflt k_asm); (case e4 => k_dflt k_asm); (case e5 => k_dflt k_asm); (case e6 => k_dflt (first | exact rfl | assumption)); (case e7 => k_dflt ktr_room); (case e8 => k_dflt ktr_units); (case qK => k_dflt (assumption)); intro r9 nx9 h9 tk9 F9 N9 e9; (obtain ⟨⟨k9, e9⟩, f9⟩ := e9); subst e9; subst f9; (try dsimp only); (try k_sweep); (try k_fold)))
local macro_rules | `(tactic| walk_at "call ref") => `(tactic| (k_here; (with_reducible show wpAny _ _ (call (Value.ref 114) _) _ _ _); refine Hold.out ?_))
local macro_rules | `(tactic| walk_at "call ref") => `(tactic| (k_here; (with_reducible show wpAny _ _ (call (Value.ref 121) _) _ _ _); refine Hold.out ?_))
local macro_rules | `(tactic| walk_at "subscriptTail Name Slice ref ref") => `(tactic| (k_here; refine Hold.out ?_))
local macro_rules | `(tactic| walk_at "subscriptTail Name Name ref str") => `(tactic| (k_here; refine Hold.out ?_))
theorem slice_one (v : Value) (vs : List Value) : slicePick (v :: vs).toArray (some 1) none none = vs.toArray := by
  have e : sliceBounds (some 1) none none (v :: vs).toArray.size = (((1 : Nat) : Int), (((v :: vs).toArray.size : Nat) : Int), 1) := by
    rw [List.size_toArray, List.length_cons]
    simp only [sliceBounds, Option.getD_none, show (1 : Int) > 0 by decide, if_true, if_neg (show ¬ ((1 : Int) < 0) by omega)]
    congr 1
    omega
  rw [kmk_pick_nat _ e, List.size_toArray]
  simp
def xorIx (l : List Nat) : Nat := l.foldl (fun a k => a ^^^ 2 ^ k) 0
theorem xorIx_all : ∀ b : Fin 16, xorIx (picksIx b.val) = b.val := by decide +kernel
theorem xorIx_snoc {l : List Nat} {j k : Nat} (h : l[j]? = some k) : xorIx (l.take (j + 1)) = xorIx (l.take j) ^^^ 2 ^ k := by
  unfold xorIx
  rw [List.take_add_one, h, List.foldl_append]; rfl
theorem picksIx_lt {b j k : Nat} (h : (picksIx b)[j]? = some k) : k < 4 := List.mem_range.mp (List.mem_filter.mp (List.mem_of_getElem? h)).1
theorem sign_at {low b j : Nat} {y : Str} (h7 : 7 ≤ low) (h51 : low ≤ 51) (h : (picks low b)[j]? = some y) : ∃ k, (picksIx b)[j]? = some k ∧ k < 4 ∧ kdpHas exactC y = true ∧ kdpLook exactC y 0 = ((low + k : Nat) : Int) := by
  unfold picks at h
  rw [List.getElem?_map] at h
  cases hk : (picksIx b)[j]? with
  | none => rw [hk] at h; cases h
  | some k =>
    rw [hk] at h
    have hk4 := picksIx_lt hk
    refine ⟨k, rfl, hk4, ?_⟩
    have hy : y = sgnL.getD (low - 7 + k) ⟨#[]⟩ := by
      rw [← Option.some.inj h]
      show (namesL low).getD k _ = _
      unfold namesL
      rw [List.getD_eq_getElem?_getD, List.getD_eq_getElem?_getD, List.getElem?_take, if_pos hk4, List.getElem?_drop]
    have hx := exact_at ⟨low - 7 + k, by omega⟩
    dsimp only at hx
    rw [← hy, show 7 + (low - 7 + k) = low + k by omega] at hx
    exact hx
theorem reply_mid {low b : Nat} (h1 : 1 ≤ b) (h2 : b < 16) : (⟨(quoGo ((replyT (namesL low) (b : Int)).cps.toList.drop 5)).toArray⟩ : Str).length ≤ 16 := by
  rw [reply_is]
  show (⟨(quoGo ((Str.join ⟨#[34, 34]⟩ (picks low b)).cps.toList ++ 34 :: 32 :: [116, 117, 114, 110, 101, 100])).toArray⟩ : Str).length ≤ 16
  rw [quo_join _ (picks low b) (picks_ne h1 h2) fun y hy => (picks_ok low b y hy).2]
  show (Str.join ⟨#[34]⟩ (picks low b)).length ≤ 16
  have h2 := StrLaws.join_length_le ⟨#[34]⟩ (picks low b)
  have h3 := StrLaws.sumLen_le (B := 3) (picks low b) fun y hy => (picks_ok low b y hy).1
  have h4 := picks_len low b
  have h5 : (⟨#[34]⟩ : Str).length = 1 := rfl
  rw [h5] at h2
  omega
theorem con_read {w : World} {mean : ExcName → Option Value} {mg mb : Str → Option Value} {S R : Addr} {vs ws : List Value} {Ss : List Nat} {n n2 : Nat} {low : Nat} (hi : StrsAre ws (firstT low :: (up Ss).map (replyT (namesAt low)))) (hS : ∀ s ∈ Ss, 1 ≤ s ∧ s < 16) (hl : Ss.length ≤ 5) (hlo : 7 ≤ low) (hlo2 : low ≤ 51) :
    Con w mean mg mb 206 40 200 [(R, listOf ws.toArray n2), (S, listOf vs.toArray n)] [.ref R] (fun r nx => ∃ M n' ms, r = .ref M ∧ nx = [(M, listOf ms.toArray n'), (S, listOf vs.toArray n)] ∧ IntsAre ms (up Ss) ∧ S < M) := by
  unfold Con
  w_top off
  k_fill
  intro dp un gd cn cs a ccd cl outer A₀ base h₀ L m s Q E B F X N Tp hk hd hu hret
  refine wpAny_call ?_
  refine' code_def (binds := [(Str.ofString "replies", Value.ref R)]) ?c1 ?c2 ?c3 ?c4 ?c5 ?cA ?cF ?cK ?c6 ?c7 ?c8 ?c9 ?cB ?_ ?d2 ?d3 ?d4 ?d5
  case cA => exact rfl
  case cF => exact rfl
  case cK => assumption
  case c1 => k_asm
  case c2 => k_asm
  case c3 => k_asm
  case c4 => k_asm
  case c5 => k_asm
  case c6 => k_dflt k_is
  case c7 => k_dflt k_is
  case c8 => ktr_room
  case c9 => exact BindsTo.of_eq (by kernel_rfl)
  case d5 => decide
  case cB => exact locs rfl
  case d2 => exact rfl
  case d3 => exact rfl
  case d4 => exact rfl
  intro g0 L0 h0' FG0 F0 N0 B0 X0 T0
  simp only [List.reverse_cons, List.reverse_nil, List.nil_append] at F0
  k_fold
  cases hi with
  | @cons f tf vs1 xs hi =>
  have hwl := hi.length
  rw [namesL_is] at hi
  have hfo : firstOk low = true := by
    have h9 := first_all ⟨low - 7, by omega⟩
    rwa [show 7 + (low - 7) = low by omega] at h9
  unfold firstOk at hfo
  simp only [Bool.and_eq_true, decide_eq_true_eq, beq_iff_eq] at hfo
  obtain ⟨⟨⟨⟨⟨⟨⟨⟨q1, q2⟩, q3⟩, q4⟩, q5⟩, q6⟩, q7⟩, q8⟩, q9⟩ := hfo
  generalize hft : firstT low = ft at *
  k_steps
  refine ⟨?_⟩
  refine' con_p229 ft tf q1 q2 q3 (by rw [q3]; exact q4) (by rw [q3]; exact q5) (by rw [q3]; exact q6) (by rw [q3]; exact q7) q8 q9 _ _ _ _ _ _ _ _ _ _ _ _ _ _ _ _ _ ?e1 ?e2 ?e3 ?e4 ?e5 ?e6 ?e7 ?e8 ?_
  case e1 => k_asm
  case e2 => k_asm
  case e3 => k_asm
  case e4 => k_asm
  case e5 => k_asm
  case e6 => exact rfl
  case e7 => ktr_room
  case e8 => ktr_units
  rintro _ _ h1 tk1 F1 N1 ⟨Bt, tk9, rfl, rfl, la1, la2⟩
  replace la1 := ltN la1
  replace la2 := ltN la2
  k_steps
  refine ⟨?_⟩
  rename Fr _ _ _ _ => lF
  rename News _ _ _ _ => lN
  have hwz : vs1.length ≤ 5 := by rw [hwl, List.length_map, up_len]; exact hl
  k_dflt (refine kmk_slice (s := ⟨_, _, _, _, _⟩) lF lN (News.isList lN (by k_mem)) (IsPart.int _ _) IsPart.none ?_ ?hs ?ht ?hz)
  case hs => with_unfolding_all rfl
  case ht => kmk_pure
  case hz => rw [List.size_toArray, PySem.sizeLine_eq, List.length_cons]; omega
  intro D1 h2 F2 N2 l2
  rw [slice_one] at N2
  (try k_lt l2)
  clear lF lN
  k_whole
  (try dsimp only)
  (try k_fold)
  k_steps
  refine ⟨?_⟩
  rename Fr _ _ _ _ => lF
  rename News _ _ _ _ => lN
  obtain ⟨M, rfl⟩ := nm2 lN
  rename Bt < M ∧ _ => lM
  refine kst_strsL (σ := List Value × List Nat × Nat) (fun c => [(D1, listOf vs1.toArray 0), (M, listOf c.1.toArray c.2.2), (S, listOf vs.toArray n)]) (fun _ => []) (fun c => IntsAre c.1 (up c.2.1)) [Str.ofString "move", Str.ofString "sign"] (fun i c => c.2.1 = Ss.take i) ([], [], 0)
    rfl (fun c => List.Mem.head _) hi lF (kst_newsOf lN (by kst_in)) .nil (fun _ h => nomatch h) rfl ?_ ?_
  · rintro ⟨v1, n1, c1⟩ i y t u h tk1 own hy hoff hfa hinv Fx Nx
    dsimp only [kstB] at Fx
    dsimp only at hfa hinv
    simp only [List.cons_append, List.nil_append] at Nx
    simp only [List.map_cons, List.map_nil] at hoff
    have hz : v1.length ≤ 60 := by
      rw [hfa.length, up_len, hinv, List.length_take]
      omega
    obtain ⟨b, hb, hyb⟩ : ∃ b, Ss[i]? = some b ∧ y = replyT (namesL low) (b : Int) := by
      unfold up at hy
      rw [List.map_map, List.getElem?_map] at hy
      cases hb : Ss[i]? with
      | none => rw [hb] at hy; cases hy
      | some b => rw [hb] at hy; exact ⟨b, rfl, (Option.some.inj hy).symm⟩
    obtain ⟨hb1, hb2⟩ := hS b (List.mem_of_getElem? hb)
    have p1 : y.length ≤ 200 := by rw [hyb]; exact (reply_len low b).2
    have p2 : (Txt.slice y none (some 3) != Str.ofString "257") = false := by rw [hyb]; exact slice_a (reply_is _ b)
    have p3 : (Txt.slice y (some 3) (some 5) != Str.ofString " \"") = false := by rw [hyb]; exact slice_b (reply_is _ b)
    have p4 : 5 ≤ y.length := by rw [hyb]; exact (reply_len low b).1
    have hz1 : (⟨(quoGo (y.cps.toList.drop 5)).toArray⟩ : Str).length ≤ 16 := by rw [hyb]; exact reply_mid hb1 hb2
    have hsp : Txt.split ⟨(quoGo (y.cps.toList.drop 5)).toArray⟩ (Str.ofString "\"") = picks low b := by rw [hyb]; exact reply_split hb1 hb2
    clear hyb hy
    generalize hP : InvPostN _ _ _ _ _ _ _ = P
    k_steps
    refine ⟨?_⟩
    refine' con_p257 y t p1 p2 p3 p4 _ _ _ _ _ _ _ _ _ _ _ _ _ _ _ _ _ ?f1 ?f2 ?f3 ?f4 ?f5 ?f6 ?f7 ?f8 ?_
    case f1 => k_asm
    case f2 => k_asm
    case f3 => k_asm
    case f4 => k_asm
    case f5 => k_asm
    case f6 => exact rfl
    case f7 => ktr_room
    case f8 => ktr_units
    rintro _ _ h3 tk3 F3 N3 ⟨⟨kx, rfl⟩, rfl⟩
    generalize (⟨(quoGo (y.cps.toList.drop 5)).toArray⟩ : Str) = z at *
    k_steps
    refine ⟨?_⟩
    rename Fr _ _ _ _ => lF
    rename News _ _ _ _ => lN
    rename StrsAre _ _ => hi2
    rename _ = Txt.split z _ => hlk
    rw [hlk, hsp] at hi2
    obtain ⟨D2, hD2⟩ := nm1 lN
    rw [← hD2] at lN
    rw [← hD2]
    clear hD2
    refine kst_strsL (σ := Nat × Tok) (fun _ => (D2, listOf (strValues _).toArray _) :: (D1, listOf vs1.toArray 0) :: (M, listOf v1.toArray c1) :: (S, listOf vs.toArray n) :: own) (fun c => [(Str.ofString "move", Value.int (c.1 : Int) c.2)]) (fun _ => True) [] (fun j c => c.1 = xorIx ((picksIx b).take j)) (0, _)
      rfl (fun c => List.Mem.head _) hi2 lF lN trivial (by kst_all) rfl ?_ ?_
    · rintro ⟨mv, tmv⟩ j y2 t2 u2 h4 tk4 own2 hy2 hoff2 _ hinv2 Fx2 Nx2
      dsimp only [kstB] at Fx2
      dsimp only at hinv2
      simp only [List.cons_append, List.nil_append] at Nx2
      simp only [List.map_cons, List.map_nil] at hoff2
      obtain ⟨k, hk1, hk4, hhas, hlook⟩ := sign_at hlo hlo2 hy2
      generalize hP2 : InvPostN _ _ _ _ _ _ _ = P2
      k_steps
      refine ⟨?_⟩
      rename Fr _ _ _ _ => lF2
      refine kdp_item (c := exactC) (TabAt.ofFr (exact_tab X0) lF2) hhas ?_
      intro tx
      rw [hlook]
      k_whole
      k_steps
      subst hP2
      rename News g0 L0 _ _ => lN4
      refine kst_end (σ := Nat × Tok) (mv ^^^ 2 ^ k, _) (by assumption) lN4 (inL (own := own2) rfl) (by intro p hp; kst_mem) rfl trivial (by kst_all) (by kst_same) ?_
      show mv ^^^ 2 ^ k = _
      rw [List.length_replicate, xorIx_snoc hk1, ← hinv2]
    · rintro ⟨mv, tmv⟩ u2 h4 tk4 _ hinv2 Fx2 Nx2
      dsimp only [kstB] at Fx2
      dsimp only at hinv2 Nx2
      have hmv : mv = b := by
        rw [hinv2, List.take_of_length_le (by unfold picks; rw [List.length_map]; exact Nat.le_refl _)]
        exact xorIx_all ⟨b, hb2⟩
      subst hmv
      have Nx3 := kst_newsOf Nx2 (fun p hp => List.mem_cons_of_mem _ hp)
      clear Nx2
      k_steps
      subst hP
      rename News g0 L0 _ _ => lN5
      simp only [List.push_toArray] at lN5
      refine kst_end (σ := List Value × List Nat × Nat) (v1 ++ [Value.int (mv : Int) _], n1 ++ [mv], c1 + 1) (by assumption) lN5 (by kst_in) (by intro p hp; kst_mem) rfl ?_ (by kst_all) (by kst_same) ?_
      · show IntsAre _ (up (n1 ++ [mv]))
        rw [up_append]; exact hfa.append (.cons _ _ .nil)
      · show n1 ++ [mv] = Ss.take (List.replicate (i + 1) 0).length
        rw [List.length_replicate, List.take_add_one, hb, hinv]; rfl
  · rintro ⟨v1, n1, c1⟩ u h tk1 hfa hinv Fx Nx
    dsimp only [kstB] at Fx
    dsimp only at hfa hinv Nx
    k_steps
    rename News h₀ L _ _ => lN6
    refine hret _ _ _ _ (by assumption) (kst_newsOf (l' := [(M, listOf v1.toArray c1), (S, listOf vs.toArray n)]) lN6 (by kst_in)) ⟨M, c1, v1, rfl, rfl, ?_, lM.2.2⟩
    rw [hinv, List.take_of_length_le (by rw [List.length_map, up_len]; exact Nat.le_refl _)] at hfa
    exact hfa
end
end
end Mine
end
section
open PySem PySem.W PyProof.Rows PySem.Spec
namespace Mine
local macro_rules | `(tactic| walk_at "call ref") => `(tactic| (k_here; refine Hold.out ?_))
local macro_rules | `(tactic| walk_at "compareOp Eq ref ref") => `(tactic| (k_here; refine Hold.out ?_))
local macro_rules | `(tactic| walk_at "compareOp NotEq ref ref") => `(tactic| (k_here; refine Hold.out ?_))
theorem setsUp (ts : List Int) : ∃ Ss : List Nat, setsOf ts = up Ss ∧ Ss.Nodup ∧ (∀ s ∈ Ss, 1 ≤ s ∧ s < 16) ∧ Ss.length ≤ 5 := by
  obtain ⟨Ss, q1, q2, q3, q4⟩ := setsOf_up (ts.take 5)
  exact ⟨Ss, q1, q2, q3, Nat.le_trans q4 (List.length_take_le _ _)⟩
theorem lowNat (x : Int) : ∃ low : Nat, 7 + Int.fmod x 45 = (low : Int) ∧ 7 ≤ low ∧ low ≤ 51 := by
  have h3 := Int.emod_nonneg x (show (45 : Int) ≠ 0 by decide)
  have h4 := Int.emod_lt_of_pos x (show (0 : Int) < 45 by decide)
  rw [Int.fmod_eq_emod_of_nonneg _ (by decide)]
  exact ⟨(7 + x % 45).toNat, by omega, by omega, by omega⟩
theorem fin : PySem.Challenge.rw_wn0103_01.Holds := hd (by
  k_go0
  (all_goals try k_fold)
  k_steps
  rename IntsAre _ _ => hI
  refine ⟨?_⟩
  refine' con_totals hI (by omega) _ _ _ _ _ _ _ _ _ _ _ _ _ _ _ _ _ ?e1 ?e2 ?e3 ?e4 ?e5 ?e6 ?e7 ?e8 ?e9 ?_
  case e1 => k_asm
  case e2 => k_asm
  case e3 => k_asm
  case e4 => k_asm
  case e5 => k_asm
  case e6 => exact rfl
  case e7 => first | ktr_room | decide
  case e8 => first | ktr_units | decide
  case e9 => is_list
  rintro _ _ h1 tk1 F1 N1 ⟨T, n1, ws1, ts, rfl, rfl, iT, lT⟩
  k_steps
  refine ⟨?_⟩
  refine' con_sets iT lT _ _ _ _ _ _ _ _ _ _ _ _ _ _ _ _ _ ?f1 ?f2 ?f3 ?f4 ?f5 ?f6 ?f7 ?f8 ?_
  case f1 => k_asm
  case f2 => k_asm
  case f3 => k_asm
  case f4 => k_asm
  case f5 => k_asm
  case f6 => exact rfl
  case f7 => first | ktr_room | decide
  case f8 => first | ktr_units | decide
  rintro _ _ h2 tk2 F2 N2 ⟨S, n2, ws2, rfl, rfl, iS, lTS⟩
  replace lTS := ltN lTS
  obtain ⟨Ss, eS, hnd, hS, hl5⟩ := setsUp ts
  rw [eS] at iS
  have hz1 : ws1.length = 6 := by rw [iT.length, lT]
  k_steps
  obtain ⟨low, elow, hlo, hlo2⟩ := lowNat (ts.getD (Int.toNat 5) 0)
  rw [elow]
  clear eS
  rename News _ _ _ _ => lN
  have lN1 := kst_newsOf (l' := [(S, listOf ws2.toArray n2)]) lN (by kst_in)
  refine ⟨?_⟩
  refine' con_repl iS hS hl5 hlo hlo2 _ _ _ _ _ _ _ _ _ _ _ _ _ _ _ _ _ ?g1 ?g2 ?g3 ?g4 ?g5 ?g6 ?g7 ?g8 ?_
  case g1 => k_asm
  case g2 => k_asm
  case g3 => k_asm
  case g4 => exact lN1
  case g5 => k_asm
  case g6 => exact rfl
  case g7 => first | ktr_room | decide
  case g8 => first | ktr_units | decide
  rintro _ _ h3 tk3 F3 N3 ⟨R, n3, ws3, rfl, rfl, iR, lSR⟩
  replace lSR := ltN lSR
  k_steps
  refine ⟨?_⟩
  refine' con_read iR hS hl5 hlo hlo2 _ _ _ _ _ _ _ _ _ _ _ _ _ _ _ _ _ ?h1 ?h2 ?h3 ?h4 ?h5 ?h6 ?h7 ?h8 ?_
  case h1 => k_asm
  case h2 => k_asm
  case h3 => k_asm
  case h4 => k_asm
  case h5 => k_asm
  case h6 => exact rfl
  case h7 => first | ktr_room | decide
  case h8 => first | ktr_units | decide
  rintro _ _ h4 tk4 F4 N4 ⟨M, n4, ws4, rfl, rfl, iM, lSM⟩
  replace lSM := ltN lSM
  have hz2 : ws2.length ≤ 5 := by rw [iS.length, up_len]; exact hl5
  have hz4 : ws4.length ≤ 5 := by rw [iM.length, up_len]; exact hl5
  k_steps
  refine ⟨?_⟩
  k_dflt (refine ke_ne_ints (by is_list) (by is_list) iM iS (by ke_room) ?_)
  rw [decide_eq_true (rfl : up Ss = up Ss)]
  (try dsimp only [Bool.not_true])
  k_steps
  refine ⟨?_⟩
  refine' con_played iM hS hl5 hnd (depth_of Ss) (fun r hr => worth_mex hS hr) _ _ _ _ _ _ _ _ _ _ _ _ _ _ _ _ _ ?i1 ?i2 ?i3 ?i4 ?i5 ?i6 ?i7 ?i8 ?_
  case i1 => k_asm
  case i2 => k_asm
  case i3 => k_asm
  case i4 => k_asm
  case i5 => k_asm
  case i6 => exact rfl
  case i7 => first | ktr_room | decide
  case i8 => first | ktr_units | decide
  rintro _ _ h5 tk5 F5 N5 ⟨Dt, Wd, Rd, oW, oR, dn, rfl, rfl, dW, dR, hdn, h16, sW, sR⟩
  k_steps
  rename News _ _ _ _ => lN
  have lN2 := kst_newsOf (l' := [(S, listOf ws2.toArray n2), (Dt, tup2 Wd Rd), (Rd, oR), (Wd, oW), (M, listOf ws4.toArray n4)]) lN (by kst_in)
  refine ⟨?_⟩
  refine' con_due iS hS hl5 _ _ _ _ _ _ _ _ _ _ _ _ _ _ _ _ _ ?j1 ?j2 ?j3 ?j4 ?j5 ?j6 ?j7 ?j8 ?_
  case j1 => k_asm
  case j2 => k_asm
  case j3 => k_asm
  case j4 => exact lN2
  case j5 => k_asm
  case j6 => exact rfl
  case j7 => first | ktr_room | decide
  case j8 => first | ktr_units | decide
  rintro _ _ h6 tk6 F6 N6 ⟨D2, Wd2, Rd2, oW2, oR2, rfl, rfl, dW2, dR2, sW2, sR2⟩
  k_steps
  refine ⟨?_⟩
  refine tups_eq (f := fun r => xorTo (coinsTo Ss 4) r 4) (g := deepAt Ss) N6 (ha := .tail _ (.tail _ (.tail _ (.tail _ (.head _))))) (hb := .head _) (ha1 := by k_mem) (ha2 := by k_mem) (hb1 := by k_mem) (hb2 := by k_mem) dW dR dW2 dR2 sW sR sW2 sR2 hdn h16 (by first | ktr_units | decide) (by first | ktr_units | decide) ?_
  k_steps)
end Mine
end
theorem PySem.Challenge.cw_wn0103_01_holds : PySem.Challenge.rw_wn0103_01.Holds :=
  Mine.fin
