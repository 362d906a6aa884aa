import PyProof.Rows.All
import Wide.All
import OpenK.AllK
import Wide.FinOn
import PyProof.TupleIter
import PyProof.MinMaxWalk
import PyProof.EnumStmt
import PyProof.EqKinds
import PyProof.NeKinds
import PyProof.StrLawsIn
import PyProof.RangeFor
import PyProof.ForRange
import PyProof.IsInstanceT
import PyProof.ListNew
import PyProof.ListIndexNeg
import PyProof.Rows.SetObj
import PyProof.SliceMore
import PyProof.StrLawsReplace
import PyProof.StrLawsNeg
import PyProof.StrLawsLast
import PyProof.Rows.DictListVals
import PyProof.Rows.RaiseClass
import PyProof.SetRoads
import PyProof.SetNew
import Lean
import PySem.Challenge.RW_aa0007_01
set_option Elab.async false
set_option maxRecDepth 100000
set_option linter.all false
set_option compiler.extract_closed false
namespace Mine
theorem hideG {G : Prop} (h : ∀ g : Prop, (G → g) → g) : G := h G id
theorem hideL {G : Prop} (h : let g := G; g) : G := h
theorem room {a n k r : Nat} (h : a + n < r) (hk : Nat.ble k n = true) : a + k < r := Nat.lt_of_le_of_lt (Nat.add_le_add_left (Nat.le_of_ble_eq_true hk) a) h
theorem room2 {a n j k r : Nat} (h : a + n < r) (hk : Nat.ble (j + k) n = true) : a + j + k < r := by rw [Nat.add_assoc]; exact room h hk
theorem room3 {a n i j k r : Nat} (h : a + n < r) (hk : Nat.ble (i + (j + k)) n = true) : a + i + j + k < r := by rw [Nat.add_assoc, Nat.add_assoc]; exact room h hk
theorem ch0 (m n : Nat) {a : Nat} (e : Nat.ble m n = true) : a + m ≤ a + n := Nat.add_le_add_left (Nat.le_of_ble_eq_true e) a
theorem ch1 (i j m n : Nat) {a b : Nat} (h : a + i ≤ b + j) (e : Nat.ble (m + j) (n + i) = true) : a + m ≤ b + n := by
  have := Nat.add_le_add h (Nat.le_of_ble_eq_true e)
  rw [Nat.add_add_add_comm a i, Nat.add_add_add_comm b j, Nat.add_comm j i] at this
  exact Nat.le_of_add_le_add_right this
theorem ch_tr {i j k l a b c : Nat} (h : a + i ≤ b + j) (h2 : b + k ≤ c + l) : a + (i + k) ≤ c + (j + l) := by
  rw [← Nat.add_assoc, Nat.add_comm j l, ← Nat.add_assoc]
  refine Nat.le_trans (Nat.add_le_add_right h k) ?_
  rw [Nat.add_right_comm]; exact Nat.add_le_add_right h2 j
theorem ch2 (i j k l m n : Nat) {a b c : Nat} (h : a + i ≤ b + j) (h2 : b + k ≤ c + l) (e : Nat.ble (m + j + l) (n + i + k) = true) : a + m ≤ c + n :=
  ch1 (i + k) (j + l) m n (ch_tr h h2) (by rw [← Nat.add_assoc, ← Nat.add_assoc]; exact e)
theorem ch3 (i j k l p q m n : Nat) {a b c d : Nat} (h : a + i ≤ b + j) (h2 : b + k ≤ c + l) (h3 : c + p ≤ d + q) (e : Nat.ble (m + j + l + q) (n + i + k + p) = true) : a + m ≤ d + n :=
  ch2 (i + k) (j + l) p q m n (ch_tr h h2) h3 (by rw [← Nat.add_assoc m, ← Nat.add_assoc n]; exact e)
theorem ch4 (i j k l p q t u m n : Nat) {a b c d x : Nat} (h : a + i ≤ b + j) (h2 : b + k ≤ c + l) (h3 : c + p ≤ d + q) (h4 : d + t ≤ x + u) (e : Nat.ble (m + j + l + q + u) (n + i + k + p + t) = true) : a + m ≤ x + n :=
  ch3 (i + k) (j + l) p q t u m n (ch_tr h h2) h3 h4 (by rw [← Nat.add_assoc m, ← Nat.add_assoc n]; exact e)
set_option genInjectivity false in
set_option genSizeOf false in
inductive LX where
  | k (n : Nat)
  | v (i : Nat)
  | a (x y : LX)
  | m (n : Nat) (x : LX)
  | w (x : LX) (n : Nat)
noncomputable abbrev lxAt (c : List Nat) (i : Nat) : Nat := List.rec (motive := fun _ => Nat → Nat) (fun _ => 0) (fun a _ ih i => Nat.rec (motive := fun _ => Nat) a (fun j _ => ih j) i) c i
noncomputable abbrev LX.ev (c : List Nat) (x : LX) : Nat := LX.rec (motive := fun _ => Nat) (fun n => n) (fun i => lxAt c i) (fun _ _ a b => a + b) (fun n _ a => n * a) (fun _ n a => a * n) x
def LX.co (i : Nat) : LX → Nat
  | .k _ => 0
  | .v j => cond (Nat.beq i j) 1 0
  | .a x y => x.co i + y.co i
  | .m n x => n * x.co i
  | .w x n => n * x.co i
def LX.cs : LX → Nat
  | .k n => n
  | .v _ => 0
  | .a x y => x.cs + y.cs
  | .m n x => n * x.cs
  | .w x n => n * x.cs
def lxDot : List Nat → (Nat → Nat) → Nat
  | [], _ => 0
  | a :: c, f => f 0 * a + lxDot c (fun i => f (i + 1))
theorem lxDot_zero : ∀ c : List Nat, lxDot c (fun _ => 0) = 0
  | [] => rfl
  | a :: c => by rw [lxDot, lxDot_zero c, Nat.zero_mul]
theorem lxDot_add : ∀ (c : List Nat) (f g : Nat → Nat), lxDot c (fun i => f i + g i) = lxDot c f + lxDot c g
  | [], _, _ => rfl
  | a :: c, f, g => by
    rw [lxDot, lxDot, lxDot, lxDot_add c (fun i => f (i + 1)) (fun i => g (i + 1)), Nat.add_mul]
    exact Nat.add_add_add_comm _ _ _ _
theorem lxDot_mul : ∀ (c : List Nat) (n : Nat) (f : Nat → Nat), lxDot c (fun i => n * f i) = n * lxDot c f
  | [], _, _ => rfl
  | a :: c, n, f => by rw [lxDot, lxDot, lxDot_mul c n (fun i => f (i + 1)), Nat.mul_add, Nat.mul_assoc]
theorem lxDot_v : ∀ (c : List Nat) (j : Nat), lxDot c (fun i => cond (Nat.beq i j) 1 0) = lxAt c j
  | [], _ => rfl
  | a :: c, 0 => by
    show 1 * a + lxDot c (fun _ => 0) = a
    rw [lxDot_zero, Nat.one_mul, Nat.add_zero]
  | a :: c, j + 1 => by
    show 0 * a + lxDot c (fun i => cond (Nat.beq i j) 1 0) = lxAt c j
    rw [lxDot_v c j, Nat.zero_mul, Nat.zero_add]
theorem lxDot_le : ∀ (c : List Nat) (f g : Nat → Nat), (∀ i, i < c.length → f i ≤ g i) → lxDot c f ≤ lxDot c g
  | [], _, _, _ => Nat.le_refl _
  | a :: c, f, g, h => Nat.add_le_add (Nat.mul_le_mul_right _ (h 0 (Nat.zero_lt_succ _))) (lxDot_le c _ _ fun i hi => h (i + 1) (Nat.succ_lt_succ hi))
theorem lx_ev (c : List Nat) : ∀ e : LX, e.ev c = e.cs + lxDot c (fun i => e.co i)
  | .k n => by show n = n + lxDot c (fun _ => 0); rw [lxDot_zero]; rfl
  | .v j => by show lxAt c j = 0 + lxDot c (fun i => cond (Nat.beq i j) 1 0); rw [lxDot_v, Nat.zero_add]
  | .a x y => by
    show x.ev c + y.ev c = x.cs + y.cs + lxDot c (fun i => x.co i + y.co i)
    rw [lx_ev c x, lx_ev c y, lxDot_add]; exact Nat.add_add_add_comm _ _ _ _
  | .m n x => by
    show n * x.ev c = n * x.cs + lxDot c (fun i => n * x.co i)
    rw [lx_ev c x, lxDot_mul, Nat.mul_add]
  | .w x n => by
    show x.ev c * n = n * x.cs + lxDot c (fun i => n * x.co i)
    rw [lx_ev c x, lxDot_mul, Nat.mul_comm, Nat.mul_add]
def LX.dom (n : Nat) (x y : LX) : Bool := Nat.ble x.cs y.cs && (List.range n).all fun i => Nat.ble (x.co i) (y.co i)
theorem lx_dom {c : List Nat} {x y : LX} (h : LX.dom c.length x y = true) : x.ev c ≤ y.ev c := by
  rw [LX.dom, Bool.and_eq_true, List.all_eq_true] at h
  rw [lx_ev c x, lx_ev c y]
  exact Nat.add_le_add (Nat.le_of_ble_eq_true h.1) (lxDot_le c _ _ fun i hi => Nat.le_of_ble_eq_true (h.2 i (List.mem_range.mpr hi)))
theorem lx_end {D g1 g2 r l : Nat} (h : (D + 1) * g1 + r ≤ (D + 1) * g2 + (D + l)) (e : l ≤ r) : g1 ≤ g2 := by
  have h1 : (D + 1) * g1 < (D + 1) * (g2 + 1) := by
    refine Nat.lt_of_add_lt_add_right (n := r) (Nat.lt_of_le_of_lt h (Nat.lt_of_le_of_lt (Nat.add_le_add_left (Nat.add_le_add_left e D) _) ?_))
    rw [Nat.mul_add, Nat.mul_one, Nat.add_assoc _ (D + 1) r]
    exact Nat.add_lt_add_left (Nat.add_lt_add_right (Nat.lt_succ_self D) r) _
  exact Nat.le_of_lt_succ (Nat.lt_of_mul_lt_mul_left h1)
theorem lin1 (n : Nat) (c : List Nat) (D : Nat) (g1 g2 : LX) (k1 : Nat) (l1 r1 : LX) (h1 : l1.ev c ≤ r1.ev c)
    (hn : c.length = n) (ck : LX.dom n (.a (.m (D + 1) g1) (.m k1 r1)) (.a (.m (D + 1) g2) (.a (.k D) (.m k1 l1))) = true) : g1.ev c ≤ g2.ev c :=
  lx_end (lx_dom (hn ▸ ck)) (Nat.mul_le_mul_left _ h1)
theorem lin2 (n : Nat) (c : List Nat) (D : Nat) (g1 g2 : LX) (k1 : Nat) (l1 r1 : LX) (k2 : Nat) (l2 r2 : LX) (h1 : l1.ev c ≤ r1.ev c) (h2 : l2.ev c ≤ r2.ev c)
    (hn : c.length = n) (ck : LX.dom n (.a (.m (D + 1) g1) (.a (.m k1 r1) (.m k2 r2))) (.a (.m (D + 1) g2) (.a (.k D) (.a (.m k1 l1) (.m k2 l2)))) = true) : g1.ev c ≤ g2.ev c :=
  lx_end (lx_dom (hn ▸ ck)) (Nat.add_le_add (Nat.mul_le_mul_left _ h1) (Nat.mul_le_mul_left _ h2))
theorem lxAnd {c : List Nat} (k1 : Nat) (l1 r1 : LX) (k2 : Nat) (l2 r2 : LX) (h1 : l1.ev c ≤ r1.ev c) (h2 : l2.ev c ≤ r2.ev c) : (LX.a (.m k1 l1) (.m k2 l2)).ev c ≤ (LX.a (.m k1 r1) (.m k2 r2)).ev c :=
  Nat.add_le_add (Nat.mul_le_mul_left _ h1) (Nat.mul_le_mul_left _ h2)
theorem lin3 (n : Nat) (c : List Nat) (D : Nat) (g1 g2 : LX) (k1 : Nat) (l1 r1 : LX) (k2 : Nat) (l2 r2 : LX) (k3 : Nat) (l3 r3 : LX) (h1 : l1.ev c ≤ r1.ev c) (h2 : l2.ev c ≤ r2.ev c) (h3 : l3.ev c ≤ r3.ev c)
    (hn : c.length = n) (ck : LX.dom n (.a (.m (D + 1) g1) (.a (.m 1 (.a (.m k1 r1) (.m k2 r2))) (.m k3 r3))) (.a (.m (D + 1) g2) (.a (.k D) (.a (.m 1 (.a (.m k1 l1) (.m k2 l2))) (.m k3 l3)))) = true) : g1.ev c ≤ g2.ev c :=
  lin2 n c D g1 g2 1 _ _ k3 l3 r3 (lxAnd k1 l1 r1 k2 l2 r2 h1 h2) h3 hn ck
theorem lin4 (n : Nat) (c : List Nat) (D : Nat) (g1 g2 : LX) (k1 : Nat) (l1 r1 : LX) (k2 : Nat) (l2 r2 : LX) (k3 : Nat) (l3 r3 : LX) (k4 : Nat) (l4 r4 : LX) (h1 : l1.ev c ≤ r1.ev c) (h2 : l2.ev c ≤ r2.ev c) (h3 : l3.ev c ≤ r3.ev c) (h4 : l4.ev c ≤ r4.ev c)
    (hn : c.length = n) (ck : LX.dom n (.a (.m (D + 1) g1) (.a (.m 1 (.a (.m k1 r1) (.m k2 r2))) (.m 1 (.a (.m k3 r3) (.m k4 r4))))) (.a (.m (D + 1) g2) (.a (.k D) (.a (.m 1 (.a (.m k1 l1) (.m k2 l2))) (.m 1 (.a (.m k3 l3) (.m k4 l4)))))) = true) : g1.ev c ≤ g2.ev c :=
  lin2 n c D g1 g2 1 _ _ 1 _ _ (lxAnd k1 l1 r1 k2 l2 r2 h1 h2) (lxAnd k3 l3 r3 k4 l4 r4 h3 h4) hn ck
theorem lin5 (n : Nat) (c : List Nat) (D : Nat) (g1 g2 : LX) (k1 : Nat) (l1 r1 : LX) (k2 : Nat) (l2 r2 : LX) (k3 : Nat) (l3 r3 : LX) (k4 : Nat) (l4 r4 : LX) (k5 : Nat) (l5 r5 : LX) (h1 : l1.ev c ≤ r1.ev c) (h2 : l2.ev c ≤ r2.ev c) (h3 : l3.ev c ≤ r3.ev c) (h4 : l4.ev c ≤ r4.ev c) (h5 : l5.ev c ≤ r5.ev c)
    (hn : c.length = n) (ck : LX.dom n (.a (.m (D + 1) g1) (.a (.m 1 (.a (.m k1 r1) (.m k2 r2))) (.a (.m 1 (.a (.m k3 r3) (.m k4 r4))) (.m k5 r5)))) (.a (.m (D + 1) g2) (.a (.k D) (.a (.m 1 (.a (.m k1 l1) (.m k2 l2))) (.a (.m 1 (.a (.m k3 l3) (.m k4 l4))) (.m k5 l5))))) = true) : g1.ev c ≤ g2.ev c :=
  lx_end (lx_dom (hn ▸ ck)) (Nat.add_le_add (Nat.mul_le_mul_left 1 (lxAnd k1 l1 r1 k2 l2 r2 h1 h2)) (Nat.add_le_add (Nat.mul_le_mul_left 1 (lxAnd k3 l3 r3 k4 l4 r4 h3 h4)) (Nat.mul_le_mul_left _ h5)))
theorem lin6 (n : Nat) (c : List Nat) (D : Nat) (g1 g2 : LX) (k1 : Nat) (l1 r1 : LX) (k2 : Nat) (l2 r2 : LX) (k3 : Nat) (l3 r3 : LX) (k4 : Nat) (l4 r4 : LX) (k5 : Nat) (l5 r5 : LX) (k6 : Nat) (l6 r6 : LX) (h1 : l1.ev c ≤ r1.ev c) (h2 : l2.ev c ≤ r2.ev c) (h3 : l3.ev c ≤ r3.ev c) (h4 : l4.ev c ≤ r4.ev c) (h5 : l5.ev c ≤ r5.ev c) (h6 : l6.ev c ≤ r6.ev c)
    (hn : c.length = n) (ck : LX.dom n (.a (.m (D + 1) g1) (.a (.m 1 (.a (.m k1 r1) (.m k2 r2))) (.a (.m 1 (.a (.m k3 r3) (.m k4 r4))) (.m 1 (.a (.m k5 r5) (.m k6 r6)))))) (.a (.m (D + 1) g2) (.a (.k D) (.a (.m 1 (.a (.m k1 l1) (.m k2 l2))) (.a (.m 1 (.a (.m k3 l3) (.m k4 l4))) (.m 1 (.a (.m k5 l5) (.m k6 l6))))))) = true) : g1.ev c ≤ g2.ev c :=
  lx_end (lx_dom (hn ▸ ck)) (Nat.add_le_add (Nat.mul_le_mul_left 1 (lxAnd k1 l1 r1 k2 l2 r2 h1 h2)) (Nat.add_le_add (Nat.mul_le_mul_left 1 (lxAnd k3 l3 r3 k4 l4 r4 h3 h4)) (Nat.mul_le_mul_left 1 (lxAnd k5 l5 r5 k6 l6 r6 h5 h6))))
theorem lin0 (n : Nat) (c : List Nat) (g1 g2 : LX) (hn : c.length = n) (ck : LX.dom n g1 g2 = true) : g1.ev c ≤ g2.ev c := lx_dom (hn ▸ ck)
theorem fmc {α : Type _} {P : α → Prop} {a : α} {l : List α} (h : P a) (t : ∀ x ∈ l, P x) : ∀ x ∈ a :: l, P x := List.forall_mem_cons.mpr ⟨h, t⟩
theorem map_get {α β : Type _} {g : α → β} {l : List α} {i : Nat} {t : β} (h : (l.map g)[i]? = some t) : ∃ k, l[i]? = some k ∧ t = g k := by
  rw [List.getElem?_map, Option.map_eq_some_iff] at h
  exact h.imp fun _ z => ⟨z.1, z.2.symm⟩
theorem fmn {α : Type _} {P : α → Prop} {a : α} {l l' : List α} (H : ∀ x ∈ l', P x) (m : a ∈ l') (t : ∀ x ∈ l, P x) : ∀ x ∈ a :: l, P x := fmc (H a m) t
theorem cne {L t : Nat} (h : L + 4 < t) (k : Nat) (hk : Nat.ble k 4 = true) : L + k ≠ t := Nat.ne_of_lt (Nat.lt_of_le_of_lt (Nat.add_le_add_left (Nat.le_of_ble_eq_true hk) L) h)
theorem cne' {L t : Nat} (h : L + 4 < t) (k : Nat) (hk : Nat.ble k 4 = true) : t ≠ L + k := (cne h k hk).symm
theorem gt2 {a b c : Nat} (h : a < b) (k : b < c) : c ≠ a := Nat.ne_of_gt (Nat.lt_trans h k)
theorem gt3 {a b c d : Nat} (h : a < b) (k : b < c) (m : c < d) : d ≠ a := gt2 h (Nat.lt_trans k m)
theorem nmc {α : Type _} {a b : α} {l : List α} (h : a ≠ b) (t : a ∉ l) : a ∉ b :: l := fun m => (List.mem_cons.mp m).elim h t
theorem wl1 {w a b c : Nat} (h : w ≤ (9 + 1) * (a - c + (b - c))) (ha : a ≤ 10) (hb : b ≤ 10) : w ≤ 1000 :=
  Nat.le_trans h (Nat.le_trans (Nat.mul_le_mul_left (9 + 1) (Nat.add_le_add (Nat.le_trans (Nat.sub_le a c) ha) (Nat.le_trans (Nat.sub_le b c) hb))) (Nat.le_of_ble_eq_true rfl))
theorem wl2 {w a n i b : Nat} (h : w ≤ (9 + 1) * (a - n + min i b)) (ha : a ≤ 10) (hb : b ≤ 10) : w ≤ 1000 :=
  Nat.le_trans h (Nat.le_trans (Nat.mul_le_mul_left (9 + 1) (Nat.add_le_add (Nat.le_trans (Nat.sub_le a n) ha) (Nat.le_trans (Nat.min_le_right i b) hb))) (Nat.le_of_ble_eq_true rfl))
theorem wl3 {w a n : Nat} (h : w ≤ (2 + 1) * (a - n)) (ha : a ≤ 10) : w ≤ 100 :=
  Nat.le_trans h (Nat.le_trans (Nat.mul_le_mul_left (2 + 1) (Nat.le_trans (Nat.sub_le a n) ha)) (Nat.le_of_ble_eq_true rfl))
theorem sub_pred {a n : Nat} (h : n ≤ a) (h0 : 0 < n) : a - n + 1 = a - (n - 1) := by
  cases n with
  | zero => cases h0
  | succ m => exact Nat.succ_pred_eq_of_pos (Nat.sub_pos_of_lt h)
theorem lt_turn {n k : Nat} (h : k < n) : n - (k + 1) + 1 < n - k + 1 := Nat.succ_lt_succ (Nat.sub_lt_sub_left h (Nat.lt_succ_self k))
theorem neg_one {n : Nat} : (-1 + (n : Int)).toNat = n - 1 := by rw [Int.add_comm]; exact Int.toNat_sub n 1
theorem mod_cast512 {z : Int} (h : 0 ≤ z) : z % 512 = ((z.toNat % 512 : Nat) : Int) := by
  obtain ⟨n, rfl⟩ := Int.eq_ofNat_of_zero_le h
  rfl
-- names that are taken: the head makes no second form of its own constants then
namespace top
theorem tw11279390925490393535:True:=⟨⟩
theorem tw12133044868933018485:True:=⟨⟩
theorem tw3302753350502126306:True:=⟨⟩
theorem tw602653604445443664:True:=⟨⟩
theorem tw14510474431719978317:True:=⟨⟩
theorem tw2727672472851901052:True:=⟨⟩
theorem tw16007503158450755388:True:=⟨⟩
theorem tw2167618695193717045:True:=⟨⟩
theorem tw16844067456194695469:True:=⟨⟩
theorem tw9328819404386307858:True:=⟨⟩
theorem tw18086089286151905521:True:=⟨⟩
theorem tw7799483888651840948:True:=⟨⟩
theorem tw8292330764949567954:True:=⟨⟩
theorem tw12182655422080760471:True:=⟨⟩
theorem tw10252623693936335467:True:=⟨⟩
theorem tw16541100652227675460:True:=⟨⟩
theorem tw9768079942903668216:True:=⟨⟩
theorem tw9233344734837729466:True:=⟨⟩
theorem tw12958664272152378060:True:=⟨⟩
theorem tw2896640688883821729:True:=⟨⟩
theorem tw2926424126403749041:True:=⟨⟩
theorem tw2712389131950775728:True:=⟨⟩
theorem tw8459388253790504802:True:=⟨⟩
theorem tw11203750815551599093:True:=⟨⟩
theorem tw17542608870123051758:True:=⟨⟩
theorem tw9576743257966636567:True:=⟨⟩
theorem tw12216630987165489725:True:=⟨⟩
theorem tw53344730913325255:True:=⟨⟩
theorem tw8054331753737935190:True:=⟨⟩
theorem tw1697544655201012999:True:=⟨⟩
theorem tw8687831153774095200:True:=⟨⟩
theorem tw12819366960792805191:True:=⟨⟩
theorem tw11765434788231831023:True:=⟨⟩
theorem tw7527032243904285869:True:=⟨⟩
theorem tw5779811907627552535:True:=⟨⟩
theorem tw6189502492464219833:True:=⟨⟩
theorem tw908825868028484722:True:=⟨⟩
theorem tw2770239361232196585:True:=⟨⟩
theorem tw12704153843328093452:True:=⟨⟩
theorem tw14558130701515357843:True:=⟨⟩
theorem tw1827053143587551350:True:=⟨⟩
theorem tw6460121766331871944:True:=⟨⟩
theorem tw2248615004971204189:True:=⟨⟩
theorem tw6756851087969907010:True:=⟨⟩
theorem tw11116745826364501430:True:=⟨⟩
theorem tw1068965626710143233:True:=⟨⟩
theorem tw7414872774492366064:True:=⟨⟩
theorem tw2685745773621513544:True:=⟨⟩
theorem tw14987219478266130788:True:=⟨⟩
theorem tw7781603739153083191:True:=⟨⟩
theorem tw4856909995586565122:True:=⟨⟩
theorem tw11917448952958348678:True:=⟨⟩
theorem tw4916261283513009128:True:=⟨⟩
theorem tw16795567611416646642:True:=⟨⟩
theorem tw3254097082911018636:True:=⟨⟩
theorem tw3002795768020413707:True:=⟨⟩
theorem tw5889316905344633881:True:=⟨⟩
theorem tw16659674399394625376:True:=⟨⟩
theorem tw15516308363225789855:True:=⟨⟩
theorem tw1297684725254868899:True:=⟨⟩
theorem tw17474498911051797155:True:=⟨⟩
theorem tw14512255991650004360:True:=⟨⟩
theorem tw18177719399980262173:True:=⟨⟩
theorem tw13852830345959847167:True:=⟨⟩
theorem tw9108098604805947806:True:=⟨⟩
theorem tw4807692442873511580:True:=⟨⟩
theorem tw2145171640123136144:True:=⟨⟩
theorem tw5270966168741059570:True:=⟨⟩
theorem tw6520327441239513222:True:=⟨⟩
theorem tw196536941598035525:True:=⟨⟩
theorem tw6459276657848829223:True:=⟨⟩
theorem tw7743179893348639699:True:=⟨⟩
theorem tw15638586536077026902:True:=⟨⟩
theorem tw8281120267493503204:True:=⟨⟩
theorem tw2670627174450433442:True:=⟨⟩
theorem tw7980593446034420393:True:=⟨⟩
theorem tw14823308797102314842:True:=⟨⟩
theorem tw14677765105775291144:True:=⟨⟩
theorem tw18121752080927795069:True:=⟨⟩
theorem tw4010397242664982755:True:=⟨⟩
theorem tw8547604310838440241:True:=⟨⟩
theorem tw11334415319851112604:True:=⟨⟩
theorem tw132903981291199154:True:=⟨⟩
theorem tw8598144960395782539:True:=⟨⟩
theorem tw5922324665105752571:True:=⟨⟩
theorem tw8679839319945467846:True:=⟨⟩
theorem tw14402358008270493973:True:=⟨⟩
theorem tw941743491117558340:True:=⟨⟩
theorem tw10657950659306570408:True:=⟨⟩
theorem tw5225916559131626549:True:=⟨⟩
theorem tw5786237608948540331:True:=⟨⟩
theorem tw12932905502366258525:True:=⟨⟩
theorem tw10892192912376451201:True:=⟨⟩
theorem tw6240597372359344220:True:=⟨⟩
theorem tw7926136590108786892:True:=⟨⟩
theorem tw4547018644641229820:True:=⟨⟩
theorem tw5088376156974544275:True:=⟨⟩
theorem tw16597617366809209970:True:=⟨⟩
theorem tw6144235952282697420:True:=⟨⟩
theorem tw13629508380711501469:True:=⟨⟩
theorem tw1638113669730673903:True:=⟨⟩
theorem tw7830913209206220567:True:=⟨⟩
theorem tw1366310378809935829:True:=⟨⟩
theorem tw13068111086705522682:True:=⟨⟩
theorem tw12543184057631004479:True:=⟨⟩
theorem tw9930815651645962114:True:=⟨⟩
theorem tw7059692629156357883:True:=⟨⟩
theorem tw2404127567346610951:True:=⟨⟩
theorem tw4232285709927190386:True:=⟨⟩
theorem tw14645912567700417926:True:=⟨⟩
theorem tw8355760468068845380:True:=⟨⟩
theorem tw8311017846404947139:True:=⟨⟩
theorem tw2126296398998916975:True:=⟨⟩
theorem tw3995942328266245912:True:=⟨⟩
theorem tw12031303853943761323:True:=⟨⟩
theorem tw18367679650794681301:True:=⟨⟩
theorem tw7990429038631628895:True:=⟨⟩
theorem tw10467260515200827399:True:=⟨⟩
theorem tw4835499133494076262:True:=⟨⟩
theorem tw12094960947251128927:True:=⟨⟩
theorem tw2737145857125637188:True:=⟨⟩
theorem tw12105128591322288922:True:=⟨⟩
theorem tw13706816188851595723:True:=⟨⟩
theorem tw9358617607463016204:True:=⟨⟩
theorem tw15327166235007040176:True:=⟨⟩
theorem tw12910875850793348360:True:=⟨⟩
theorem tw3392894077380570524:True:=⟨⟩
theorem tw17323899518341599180:True:=⟨⟩
theorem tw4154345032738424160:True:=⟨⟩
theorem tw16782997733028217545:True:=⟨⟩
theorem tw11858546649754279707:True:=⟨⟩
theorem tw6695526894932562539:True:=⟨⟩
theorem tw12415523145999629524:True:=⟨⟩
theorem tw5839659824258004927:True:=⟨⟩
theorem tw7849799639701767664:True:=⟨⟩
theorem tw16258771989139608452:True:=⟨⟩
theorem tw15799541711010589177:True:=⟨⟩
theorem tw10871174231137468428:True:=⟨⟩
theorem tw15860264024139754761:True:=⟨⟩
theorem tw17787025807973474337:True:=⟨⟩
theorem tw4331257952254489624:True:=⟨⟩
theorem tw17135812771915316397:True:=⟨⟩
theorem tw17316021358764173963:True:=⟨⟩
theorem tw8640399195822439974:True:=⟨⟩
theorem tw13091174067606910046:True:=⟨⟩
theorem tw11889597043561437815:True:=⟨⟩
theorem tw2464713573024523455:True:=⟨⟩
theorem tw16821654228018055803:True:=⟨⟩
theorem tw12625694945159114441:True:=⟨⟩
theorem tw4827538265410502810:True:=⟨⟩
theorem tw16809779246217341487:True:=⟨⟩
theorem tw17586783052614405119:True:=⟨⟩
theorem tw9259421805112917234:True:=⟨⟩
theorem tw2063449620868658059:True:=⟨⟩
theorem tw7079599612431449588:True:=⟨⟩
theorem tw14671331368771545958:True:=⟨⟩
theorem tw1212798325632107971:True:=⟨⟩
theorem tw12392516345856041104:True:=⟨⟩
theorem tw5647976800219259906:True:=⟨⟩
theorem tw1483126911874232274:True:=⟨⟩
theorem tw10864713392326063847:True:=⟨⟩
theorem tw2105017259488925948:True:=⟨⟩
theorem tw3635180399690538926:True:=⟨⟩
theorem tw2752453847809088016:True:=⟨⟩
theorem tw9936536881743500907:True:=⟨⟩
theorem tw9776112803966576748:True:=⟨⟩
theorem tw14065501367340364311:True:=⟨⟩
theorem tw10008474027749305400:True:=⟨⟩
theorem tw3347922821702440152:True:=⟨⟩
theorem tw2424727229257130912:True:=⟨⟩
theorem tw13508600074627941037:True:=⟨⟩
theorem tw4023782888421380502:True:=⟨⟩
theorem tw6600658504840714314:True:=⟨⟩
theorem tw9851269098105209369:True:=⟨⟩
theorem tw15579507054950336475:True:=⟨⟩
theorem tw8450641986135516787:True:=⟨⟩
theorem tw8140125068956082859:True:=⟨⟩
theorem tw14789260269991461300:True:=⟨⟩
theorem tw2630061898475652689:True:=⟨⟩
theorem tw3695669965767098725:True:=⟨⟩
theorem tw13184090274253998389:True:=⟨⟩
theorem tw14747140909534839006:True:=⟨⟩
theorem tw1559226430018442191:True:=⟨⟩
theorem tw6276886402236213621:True:=⟨⟩
theorem tw14796646475526232899:True:=⟨⟩
theorem tw17033825039287860005:True:=⟨⟩
theorem tw9989051494896439582:True:=⟨⟩
theorem tw13868720598025964128:True:=⟨⟩
theorem tw4695670854781333657:True:=⟨⟩
theorem tw1353657120722975067:True:=⟨⟩
theorem tw3730354652608582461:True:=⟨⟩
theorem tw11466170419677230873:True:=⟨⟩
theorem tw16342770487823414484:True:=⟨⟩
theorem tw1147548669246485465:True:=⟨⟩
theorem tw4705723845826882120:True:=⟨⟩
theorem tw2685012915969955173:True:=⟨⟩
theorem tw13805588055438515702:True:=⟨⟩
theorem tw13896958669275611876:True:=⟨⟩
theorem tw9953747333497923681:True:=⟨⟩
theorem tw16580785732701462914:True:=⟨⟩
theorem tw17964300760807480141:True:=⟨⟩
theorem tw5240389563564037448:True:=⟨⟩
theorem tw8529706226740600733:True:=⟨⟩
theorem tw17046948494117081484:True:=⟨⟩
theorem tw12376051458212225564:True:=⟨⟩
theorem tw5764397981948056254:True:=⟨⟩
theorem tw8722410040271553984:True:=⟨⟩
theorem tw47109162367338493:True:=⟨⟩
theorem tw10479390001358131244:True:=⟨⟩
theorem tw7138430578808182737:True:=⟨⟩
theorem tw11735923915801401282:True:=⟨⟩
theorem tw114735475811551136:True:=⟨⟩
theorem tw8043003576528973991:True:=⟨⟩
theorem tw832561496525075734:True:=⟨⟩
theorem tw2367422256012758020:True:=⟨⟩
theorem tw15029563650323070435:True:=⟨⟩
theorem tw8143265674769528471:True:=⟨⟩
theorem tw13385244156195431271:True:=⟨⟩
theorem tw9063741608606530840:True:=⟨⟩
theorem tw1169771345039838236:True:=⟨⟩
theorem tw5072613934562372735:True:=⟨⟩
theorem tw9908739903337578654:True:=⟨⟩
theorem tw12356875383205683853:True:=⟨⟩
theorem tw5552270689369575618:True:=⟨⟩
theorem tw2822501910515967889:True:=⟨⟩
theorem tw5240762971458559404:True:=⟨⟩
theorem tw3484022092364678248:True:=⟨⟩
theorem tw1209819496270969543:True:=⟨⟩
theorem tw3479634599624807885:True:=⟨⟩
theorem tw15438179002428589006:True:=⟨⟩
theorem tw7715697345341360870:True:=⟨⟩
theorem tw17594962761535629368:True:=⟨⟩
theorem tw16277812277653341489:True:=⟨⟩
theorem tw5970215366352900667:True:=⟨⟩
theorem tw17953984050398360512:True:=⟨⟩
theorem tw13820912127525551613:True:=⟨⟩
theorem tw12329864456250741675:True:=⟨⟩
theorem tw9590735534726013551:True:=⟨⟩
theorem tw9614876229902214918:True:=⟨⟩
theorem tw6777106397842556667:True:=⟨⟩
theorem tw8025738503920905074:True:=⟨⟩
theorem tw9919435345466941130:True:=⟨⟩
theorem tw12521587561680038787:True:=⟨⟩
theorem tw17176153746220573435:True:=⟨⟩
theorem tw14481524164817573384:True:=⟨⟩
theorem tw18164388396756303480:True:=⟨⟩
theorem tw18371284783138465269:True:=⟨⟩
theorem tw12545222027267286695:True:=⟨⟩
theorem tw14035151855768073663:True:=⟨⟩
theorem tw17785818512168800811:True:=⟨⟩
theorem tw2446586112883488508:True:=⟨⟩
theorem tw7358114872323791358:True:=⟨⟩
theorem tw14762295962024373759:True:=⟨⟩
theorem tw3033006917804047512:True:=⟨⟩
theorem tw4758991174889311326:True:=⟨⟩
theorem tw10233937372900511528:True:=⟨⟩
theorem tw15262977503361262276:True:=⟨⟩
theorem tw13987285891283452908:True:=⟨⟩
theorem tw13369591340354186047:True:=⟨⟩
theorem tw17301418000779511131:True:=⟨⟩
theorem tw16174758807025615021:True:=⟨⟩
theorem tw9879622307821149587:True:=⟨⟩
theorem tw1043701613660472097:True:=⟨⟩
theorem tw1321871150748368714:True:=⟨⟩
theorem tw10788732758510107901:True:=⟨⟩
theorem tw14376744209917385786:True:=⟨⟩
theorem tw8369368087495890639:True:=⟨⟩
theorem tw4730768163679209282:True:=⟨⟩
theorem tw12777874194979280185:True:=⟨⟩
theorem tw8376602336982375544:True:=⟨⟩
theorem tw7280543176740627685:True:=⟨⟩
theorem tw9777375502002234229:True:=⟨⟩
theorem tw9589608677651300831:True:=⟨⟩
theorem tw405421117753717134:True:=⟨⟩
theorem tw3951254518941146482:True:=⟨⟩
theorem tw1970353635023341864:True:=⟨⟩
theorem tw10187724287525710026:True:=⟨⟩
theorem tw13985988839938425345:True:=⟨⟩
theorem tw6124053682588569230:True:=⟨⟩
theorem tw3764141193738528704:True:=⟨⟩
theorem tw3820434133910038737:True:=⟨⟩
theorem tw9238823003894178615:True:=⟨⟩
theorem tw8374938949443298174:True:=⟨⟩
theorem tw342308947776675178:True:=⟨⟩
theorem tw5536038536531405202:True:=⟨⟩
theorem tw6075534854705499898:True:=⟨⟩
theorem tw8069049012094873728:True:=⟨⟩
theorem tw9622763587122877835:True:=⟨⟩
theorem tw11503242561204267055:True:=⟨⟩
theorem tw9195894827357321740:True:=⟨⟩
theorem tw8139039716903228087:True:=⟨⟩
theorem tw17022078359063049780:True:=⟨⟩
theorem tw728428047077509346:True:=⟨⟩
theorem tw11939397010239605379:True:=⟨⟩
theorem tw620129878449983639:True:=⟨⟩
theorem tw18362437273917381549:True:=⟨⟩
theorem tw17620759639134147866:True:=⟨⟩
theorem tw5278709424875269971:True:=⟨⟩
theorem tw10774637447528242797:True:=⟨⟩
theorem tw11593399256984752444:True:=⟨⟩
theorem tw9443507856486587283:True:=⟨⟩
theorem tw13844505572957833930:True:=⟨⟩
theorem tw12507017104952529904:True:=⟨⟩
theorem tw1867163669062818997:True:=⟨⟩
theorem tw5077617475879078156:True:=⟨⟩
theorem tw10448899703829047738:True:=⟨⟩
theorem tw5176459694589498394:True:=⟨⟩
theorem tw4977374598719398275:True:=⟨⟩
theorem tw146815374380898660:True:=⟨⟩
theorem tw11582926029173025856:True:=⟨⟩
theorem tw9514800995652322822:True:=⟨⟩
theorem tw1112988674713690477:True:=⟨⟩
theorem tw8148004212497801138:True:=⟨⟩
theorem tw2812155379371279736:True:=⟨⟩
theorem tw13902025155065610156:True:=⟨⟩
theorem tw1970226141267450039:True:=⟨⟩
theorem tw12157284967251751451:True:=⟨⟩
theorem tw10350142207108426684:True:=⟨⟩
theorem tw13571448547899197161:True:=⟨⟩
theorem tw17958866498819703998:True:=⟨⟩
theorem tw2405475915293451298:True:=⟨⟩
theorem tw65929781887070819:True:=⟨⟩
theorem tw11384800866962632227:True:=⟨⟩
theorem tw11760055953109336660:True:=⟨⟩
theorem tw6553124395847675662:True:=⟨⟩
theorem tw4586369020291528013:True:=⟨⟩
theorem tw9854493187847425173:True:=⟨⟩
theorem tw8511147975818421384:True:=⟨⟩
theorem tw408693308722189009:True:=⟨⟩
theorem tw1754339480302792767:True:=⟨⟩
theorem tw5472114250418208992:True:=⟨⟩
theorem tw8657480035899644758:True:=⟨⟩
theorem tw731822037213393670:True:=⟨⟩
theorem tw13762209637798829341:True:=⟨⟩
theorem tw3465488137227279516:True:=⟨⟩
theorem tw2835187731363253809:True:=⟨⟩
theorem tw14920630486856261636:True:=⟨⟩
theorem tw2417791160451022400:True:=⟨⟩
theorem tw568400683779154973:True:=⟨⟩
theorem tw1595350964381101642:True:=⟨⟩
theorem tw15350006587542526571:True:=⟨⟩
theorem tw6763507551630497732:True:=⟨⟩
theorem tw2985252069258134486:True:=⟨⟩
theorem tw8640417174963836015:True:=⟨⟩
theorem tw4395346232132896567:True:=⟨⟩
theorem tw18237780215024852062:True:=⟨⟩
theorem tw17781115878593249900:True:=⟨⟩
theorem tw10721205961895607491:True:=⟨⟩
theorem tw4046864289407762814:True:=⟨⟩
theorem tw12559286593441436923:True:=⟨⟩
theorem tw1981915974141516567:True:=⟨⟩
theorem tw13922054642007902626:True:=⟨⟩
theorem tw3390779319964618347:True:=⟨⟩
theorem tw6176384092110617959:True:=⟨⟩
theorem tw4721632059943922391:True:=⟨⟩
theorem tw84136930442132756:True:=⟨⟩
theorem tw15159858333777297473:True:=⟨⟩
theorem tw14450715343900746980:True:=⟨⟩
theorem tw13628324404522965827:True:=⟨⟩
theorem tw3422688185749166683:True:=⟨⟩
theorem tw3767615275625035234:True:=⟨⟩
theorem tw6509661102738689577:True:=⟨⟩
theorem tw3094374996583625845:True:=⟨⟩
theorem tw16713831800681072344:True:=⟨⟩
theorem tw10752159689236168654:True:=⟨⟩
theorem tw16885616592811714743:True:=⟨⟩
theorem tw13549259019975226677:True:=⟨⟩
theorem tw3143785405151724282:True:=⟨⟩
theorem tw5596365628329696591:True:=⟨⟩
theorem tw6699709698940308603:True:=⟨⟩
theorem tw3302483164550441651:True:=⟨⟩
theorem tw14235281626263879747:True:=⟨⟩
theorem tw14597223018079223185:True:=⟨⟩
theorem tw5591473977707886298:True:=⟨⟩
theorem tw13177472732611162249:True:=⟨⟩
theorem tw1486479319815781832:True:=⟨⟩
theorem tw7204493036743257322:True:=⟨⟩
theorem tw99440450732166138:True:=⟨⟩
theorem tw661290744650703789:True:=⟨⟩
theorem tw8435561252592420358:True:=⟨⟩
theorem tw2007660962349395123:True:=⟨⟩
theorem tw1847464428462119859:True:=⟨⟩
theorem tw5365650347091420665:True:=⟨⟩
theorem tw4462018665069346703:True:=⟨⟩
theorem tw9104712851299545879:True:=⟨⟩
theorem tw13188079976727067231:True:=⟨⟩
theorem tw15743347864482560488:True:=⟨⟩
theorem tw11960245374511038805:True:=⟨⟩
theorem tw13975414291046593716:True:=⟨⟩
theorem tw2047080938173012442:True:=⟨⟩
theorem tw12483720753089274532:True:=⟨⟩
theorem tw11072019736110318841:True:=⟨⟩
theorem tw2580922434103091657:True:=⟨⟩
theorem tw11443710868159068359:True:=⟨⟩
theorem tw1195175773429642966:True:=⟨⟩
theorem tw17103585973383926153:True:=⟨⟩
theorem tw12012865196380796599:True:=⟨⟩
theorem tw17676611151829563924:True:=⟨⟩
theorem tw14786789198576647004:True:=⟨⟩
theorem tw5535988348211436712:True:=⟨⟩
theorem tw14399976873020721970:True:=⟨⟩
theorem tw6908635100366463001:True:=⟨⟩
theorem tw408924730781346937:True:=⟨⟩
theorem tw9516688046558066552:True:=⟨⟩
theorem tw14277827659066580250:True:=⟨⟩
theorem tw16721989186581611170:True:=⟨⟩
theorem tw9684699057600944294:True:=⟨⟩
theorem tw7444641836354208208:True:=⟨⟩
theorem tw13899568491130100285:True:=⟨⟩
theorem tw15491019914900986176:True:=⟨⟩
theorem tw17810072253543177317:True:=⟨⟩
theorem tw4205137553216949640:True:=⟨⟩
theorem tw8813761850579938390:True:=⟨⟩
theorem tw8417208461021683230:True:=⟨⟩
theorem tw9666326922614434849:True:=⟨⟩
theorem tw1833847959688406909:True:=⟨⟩
theorem tw3061314461118691792:True:=⟨⟩
theorem tw15277652076535365695:True:=⟨⟩
theorem tw14456272776232333019:True:=⟨⟩
theorem tw18064794426631996164:True:=⟨⟩
theorem tw1400011881503588481:True:=⟨⟩
theorem tw18201758440048473509:True:=⟨⟩
theorem tw11584198869435930015:True:=⟨⟩
theorem tw14885488134526808858:True:=⟨⟩
theorem tw4501217679856968648:True:=⟨⟩
theorem tw10001883323181062329:True:=⟨⟩
theorem tw11131206648525784891:True:=⟨⟩
theorem tw10414433010598505635:True:=⟨⟩
theorem tw10276331973627342096:True:=⟨⟩
theorem tw17886615442053742456:True:=⟨⟩
theorem tw9166809390415177425:True:=⟨⟩
theorem tw1999819345807860298:True:=⟨⟩
theorem tw7458633546980236471:True:=⟨⟩
theorem tw16121859358006354916:True:=⟨⟩
theorem tw15242500199121756853:True:=⟨⟩
theorem tw15008207993883188931:True:=⟨⟩
theorem tw17219337458794519322:True:=⟨⟩
theorem tw156775121503410738:True:=⟨⟩
theorem tw8345894832289464959:True:=⟨⟩
theorem tw16058212318047004132:True:=⟨⟩
theorem tw16004416686337608138:True:=⟨⟩
theorem tw17434308400759680031:True:=⟨⟩
theorem tw6259670677727819807:True:=⟨⟩
theorem tw11199710921928265848:True:=⟨⟩
theorem tw2758071753971750899:True:=⟨⟩
theorem tw1664082106704710280:True:=⟨⟩
theorem tw10239475785048107997:True:=⟨⟩
theorem tw15722756333993289495:True:=⟨⟩
theorem tw9759319705405543751:True:=⟨⟩
theorem tw16345600495311464638:True:=⟨⟩
theorem tw984902984118615328:True:=⟨⟩
theorem tw11688886686041277845:True:=⟨⟩
theorem tw10694878333477680388:True:=⟨⟩
theorem tw6761616313442571491:True:=⟨⟩
theorem tw6942226510957090829:True:=⟨⟩
theorem tw3195968871104189447:True:=⟨⟩
theorem tw16719718919923625709:True:=⟨⟩
theorem tw17861464445857800736:True:=⟨⟩
theorem tw7702549930194098719:True:=⟨⟩
theorem tw13001836021917841797:True:=⟨⟩
theorem tw12960919825447276754:True:=⟨⟩
theorem tw828460304391194870:True:=⟨⟩
theorem tw11377482038585738817:True:=⟨⟩
theorem tw9059672392935016618:True:=⟨⟩
theorem tw2104912931261572322:True:=⟨⟩
theorem tw8622502720953521162:True:=⟨⟩
theorem tw16357309143852133390:True:=⟨⟩
theorem tw4870201379501977574:True:=⟨⟩
theorem tw893595371883084398:True:=⟨⟩
theorem tw3871027444623705763:True:=⟨⟩
theorem tw9843949296442739443:True:=⟨⟩
theorem tw3796891538752321733:True:=⟨⟩
theorem tw5983031951866500094:True:=⟨⟩
theorem tw11240886729373846589:True:=⟨⟩
theorem tw16034636559557993077:True:=⟨⟩
theorem tw12777601194060584777:True:=⟨⟩
theorem tw7160130303325142008:True:=⟨⟩
theorem tw9287724387753133302:True:=⟨⟩
theorem tw6265701101103706036:True:=⟨⟩
theorem tw3315250197877816394:True:=⟨⟩
theorem tw7273676953221729872:True:=⟨⟩
theorem tw2287362676942042354:True:=⟨⟩
theorem tw14826035006057030972:True:=⟨⟩
theorem tw10512489437642701289:True:=⟨⟩
theorem tw16166457384891526456:True:=⟨⟩
theorem tw13830271770371739309:True:=⟨⟩
theorem tw6756868429301003459:True:=⟨⟩
theorem tw17366924284538989914:True:=⟨⟩
theorem tw11845233108574324481:True:=⟨⟩
theorem tw3357215229441099570:True:=⟨⟩
theorem tw9233335307524088747:True:=⟨⟩
theorem tw12080426169559351053:True:=⟨⟩
theorem tw9227057690007400460:True:=⟨⟩
theorem tw16157251822727197267:True:=⟨⟩
theorem tw14851680436948445374:True:=⟨⟩
theorem tw1293289543672728842:True:=⟨⟩
theorem tw4828031223510198475:True:=⟨⟩
theorem tw1312780250039628139:True:=⟨⟩
theorem tw4250876409542091131:True:=⟨⟩
theorem tw17741875731164886585:True:=⟨⟩
theorem tw9835852885743449411:True:=⟨⟩
theorem tw93012567124736588:True:=⟨⟩
theorem tw4736427724481360342:True:=⟨⟩
theorem tw5647621183791001060:True:=⟨⟩
theorem tw14526540143163920134:True:=⟨⟩
theorem tw16800595933775061595:True:=⟨⟩
theorem tw13029900630750994668:True:=⟨⟩
theorem tw6092573690812238925:True:=⟨⟩
theorem tw8327351992414209593:True:=⟨⟩
theorem tw492879137614061493:True:=⟨⟩
theorem tw16542083797698202722:True:=⟨⟩
theorem tw401921906979044612:True:=⟨⟩
theorem tw17342085116792181814:True:=⟨⟩
theorem tw16836452506482946331:True:=⟨⟩
theorem tw15169761463676818070:True:=⟨⟩
theorem tw13890846271309207196:True:=⟨⟩
theorem tw6430265229019958763:True:=⟨⟩
theorem tw12603656398198563500:True:=⟨⟩
theorem tw580111993974873700:True:=⟨⟩
theorem tw575894324575664597:True:=⟨⟩
theorem tw15212760480394562756:True:=⟨⟩
theorem tw10559959225668370416:True:=⟨⟩
theorem tw15985961358823992270:True:=⟨⟩
theorem tw9305691244287143441:True:=⟨⟩
theorem tw2879243146029554076:True:=⟨⟩
theorem tw17138679496734019247:True:=⟨⟩
theorem tw5609151216138764652:True:=⟨⟩
theorem tw1516213087968936877:True:=⟨⟩
theorem tw16982378080980825192:True:=⟨⟩
theorem tw9456006794991739263:True:=⟨⟩
theorem tw7271127688002547587:True:=⟨⟩
theorem tw2506305409684761478:True:=⟨⟩
theorem tw16026754011512503242:True:=⟨⟩
theorem tw16264823338695392855:True:=⟨⟩
theorem tw7008692893051332821:True:=⟨⟩
theorem tw15095372191486117680:True:=⟨⟩
theorem tw14771320824794740959:True:=⟨⟩
theorem tw1592229195962567352:True:=⟨⟩
theorem tw17242060454883657917:True:=⟨⟩
theorem tw10579768621468169598:True:=⟨⟩
theorem tw5507162329139097715:True:=⟨⟩
theorem tw6754034310392073148:True:=⟨⟩
theorem tw1841203439943692989:True:=⟨⟩
theorem tw9361663168868926718:True:=⟨⟩
theorem tw3603051052118289896:True:=⟨⟩
theorem tw668136137496459709:True:=⟨⟩
theorem tw10574840078274726829:True:=⟨⟩
theorem tw13160728816969591200:True:=⟨⟩
theorem tw8243169916365450940:True:=⟨⟩
theorem tw10079171474624433434:True:=⟨⟩
theorem tw3265191590900254762:True:=⟨⟩
theorem tw5692499903750754813:True:=⟨⟩
theorem tw4851247585454992908:True:=⟨⟩
theorem tw14168018189251442112:True:=⟨⟩
theorem tw1294077662247117797:True:=⟨⟩
theorem tw13420762306968818387:True:=⟨⟩
theorem tw12609604535291364189:True:=⟨⟩
theorem tw12340227926317113386:True:=⟨⟩
theorem tw16663787254893796032:True:=⟨⟩
theorem tw8874702517807110003:True:=⟨⟩
theorem tw5581607755468803823:True:=⟨⟩
theorem tw10328360990557673835:True:=⟨⟩
theorem tw1759469698184221871:True:=⟨⟩
theorem tw2422214840401454511:True:=⟨⟩
theorem tw17103177528636943170:True:=⟨⟩
theorem tw9806617501295524395:True:=⟨⟩
theorem tw4626048006780466326:True:=⟨⟩
theorem tw6583040956863952856:True:=⟨⟩
theorem tw5341934141677670832:True:=⟨⟩
theorem tw7297446738713254254:True:=⟨⟩
theorem tw10562855833978642645:True:=⟨⟩
theorem tw5568030912866071158:True:=⟨⟩
theorem tw3087888393795971977:True:=⟨⟩
theorem tw1536312445118062077:True:=⟨⟩
theorem tw2249405535684624136:True:=⟨⟩
theorem tw9685713192446186341:True:=⟨⟩
theorem tw9990226795618131978:True:=⟨⟩
theorem tw10242591131026960117:True:=⟨⟩
theorem tw10836530967397901330:True:=⟨⟩
theorem tw9190159020981308655:True:=⟨⟩
theorem tw7381879191629600215:True:=⟨⟩
theorem tw5938710623178642122:True:=⟨⟩
theorem tw4532190169414405891:True:=⟨⟩
theorem tw10282607411357867042:True:=⟨⟩
theorem tw10101883924317870271:True:=⟨⟩
theorem tw15245507539482535896:True:=⟨⟩
theorem tw378458367893578143:True:=⟨⟩
theorem tw17807222030613408314:True:=⟨⟩
theorem tw2924597203103170677:True:=⟨⟩
theorem tw16307090917165222298:True:=⟨⟩
theorem tw8523463495250067690:True:=⟨⟩
theorem tw6065713072024180384:True:=⟨⟩
theorem tw3901323768455840569:True:=⟨⟩
theorem tw14724332232928298890:True:=⟨⟩
theorem tw16273406610938067001:True:=⟨⟩
theorem tw8372035913837991250:True:=⟨⟩
theorem tw6900192571869012848:True:=⟨⟩
theorem tw10956490626425055710:True:=⟨⟩
theorem tw4321519831107876412:True:=⟨⟩
theorem tw17595191090738125544:True:=⟨⟩
theorem tw453181688931711583:True:=⟨⟩
theorem tw11561827921928013385:True:=⟨⟩
theorem tw7671549972530922468:True:=⟨⟩
theorem tw46980244435833615:True:=⟨⟩
theorem tw650146959520709813:True:=⟨⟩
theorem tw11457754044182789617:True:=⟨⟩
theorem tw3140898538269762758:True:=⟨⟩
theorem tw10915162052029792233:True:=⟨⟩
theorem tw9811366534603930577:True:=⟨⟩
theorem tw8823455108540655025:True:=⟨⟩
theorem tw2988451766255067171:True:=⟨⟩
theorem tw10090393231696489298:True:=⟨⟩
theorem tw14429954968415203212:True:=⟨⟩
theorem tw10367675484739944270:True:=⟨⟩
theorem tw9037230937194559044:True:=⟨⟩
theorem tw12342655685612074800:True:=⟨⟩
theorem tw14214649769353832295:True:=⟨⟩
theorem tw9326722878772556681:True:=⟨⟩
theorem tw913810622518204374:True:=⟨⟩
theorem tw1971433849790844608:True:=⟨⟩
theorem tw9723989250521069032:True:=⟨⟩
theorem tw16487795177693110071:True:=⟨⟩
theorem tw10885322118463539834:True:=⟨⟩
theorem tw6786057226368545225:True:=⟨⟩
theorem tw6187478851450931391:True:=⟨⟩
theorem tw8903290554218469011:True:=⟨⟩
theorem tw11842451847925006096:True:=⟨⟩
theorem tw7675417749720738473:True:=⟨⟩
theorem tw11862920568910387298:True:=⟨⟩
theorem tw10936122117785486979:True:=⟨⟩
theorem tw1551491737661789689:True:=⟨⟩
theorem tw1394568958698188020:True:=⟨⟩
theorem tw8472579005086612782:True:=⟨⟩
theorem tw4636308790740814030:True:=⟨⟩
theorem tw7826773606061359409:True:=⟨⟩
theorem tw10248073240650190340:True:=⟨⟩
theorem tw8824317074469982123:True:=⟨⟩
theorem tw788273225186049534:True:=⟨⟩
theorem tw15744752440731449612:True:=⟨⟩
theorem tw10567129059001840431:True:=⟨⟩
theorem tw1670607248958778201:True:=⟨⟩
theorem tw15003358760713899574:True:=⟨⟩
theorem tw3715792687998586317:True:=⟨⟩
theorem tw13345470168829271861:True:=⟨⟩
theorem tw2218668502564051296:True:=⟨⟩
theorem tw1584292188352093569:True:=⟨⟩
theorem tw13500427573557490136:True:=⟨⟩
theorem tw105208000716104510:True:=⟨⟩
theorem tw14390669486469195807:True:=⟨⟩
theorem tw9913501989792142831:True:=⟨⟩
theorem tw7847352863974893604:True:=⟨⟩
theorem tw6189045185395380447:True:=⟨⟩
theorem tw14983691940233647259:True:=⟨⟩
theorem tw15234444972351076034:True:=⟨⟩
theorem tw12079853824583626197:True:=⟨⟩
theorem tw9335426496214029073:True:=⟨⟩
theorem tw18386854893347148238:True:=⟨⟩
theorem tw7891831236481173187:True:=⟨⟩
theorem tw12385144161495827662:True:=⟨⟩
theorem tw2511388062720753356:True:=⟨⟩
theorem tw10763682846017881258:True:=⟨⟩
theorem tw956942650209027819:True:=⟨⟩
theorem tw8212240652046128837:True:=⟨⟩
theorem tw11840804652615492782:True:=⟨⟩
theorem tw13743916774706631149:True:=⟨⟩
theorem tw11199532085631943738:True:=⟨⟩
theorem tw7360070258638436176:True:=⟨⟩
theorem tw9961057766049560675:True:=⟨⟩
theorem tw9250549774821547598:True:=⟨⟩
theorem tw9233715247699887402:True:=⟨⟩
theorem tw12622177474791663080:True:=⟨⟩
theorem tw15911569825323301435:True:=⟨⟩
theorem tw18144237087569449668:True:=⟨⟩
theorem tw18394268562011335289:True:=⟨⟩
theorem tw7522852383072776753:True:=⟨⟩
theorem tw5771795636922677268:True:=⟨⟩
theorem tw8833944927944761889:True:=⟨⟩
theorem tw3669314199184481253:True:=⟨⟩
theorem tw3261557481417251176:True:=⟨⟩
theorem tw6619077023068780702:True:=⟨⟩
theorem tw2592109501493986082:True:=⟨⟩
theorem tw4158126171336067921:True:=⟨⟩
theorem tw1924644684860415827:True:=⟨⟩
theorem tw12573315948526539849:True:=⟨⟩
theorem tw13822267516522204269:True:=⟨⟩
theorem tw3776753064480771068:True:=⟨⟩
theorem tw14349089067433371257:True:=⟨⟩
theorem tw15569959144833144457:True:=⟨⟩
theorem tw16774547084885117583:True:=⟨⟩
theorem tw5860347150701562758:True:=⟨⟩
theorem tw2741389259953327712:True:=⟨⟩
theorem tw11045010717311733409:True:=⟨⟩
theorem tw3095723055068941187:True:=⟨⟩
theorem tw4764630281523977524:True:=⟨⟩
theorem tw14301671488300290737:True:=⟨⟩
theorem tw7673058066778466091:True:=⟨⟩
theorem tw15687709949711836451:True:=⟨⟩
theorem tw6333448901615975916:True:=⟨⟩
theorem tw4571971715460732019:True:=⟨⟩
theorem tw13864677062968915208:True:=⟨⟩
theorem tw4166218997396506358:True:=⟨⟩
theorem tw4392038535549328194:True:=⟨⟩
theorem tw15058813355848621054:True:=⟨⟩
theorem tw6893477703608230032:True:=⟨⟩
theorem tw9366391650621772374:True:=⟨⟩
theorem tw1706793611546318481:True:=⟨⟩
theorem tw1291508964198565346:True:=⟨⟩
theorem tw1522322319653140107:True:=⟨⟩
theorem tw11173010173815179391:True:=⟨⟩
theorem tw3656269831002480980:True:=⟨⟩
theorem tw10404823597219466188:True:=⟨⟩
theorem tw10548783162686979305:True:=⟨⟩
theorem tw13432635357386499347:True:=⟨⟩
theorem tw15525995667512963556:True:=⟨⟩
theorem tw485662357110503675:True:=⟨⟩
theorem tw339143206060000330:True:=⟨⟩
theorem tw2910609919460849807:True:=⟨⟩
theorem tw12535971307161669396:True:=⟨⟩
theorem tw1601500998369573665:True:=⟨⟩
theorem tw14707807475535933493:True:=⟨⟩
theorem tw14537839394382259888:True:=⟨⟩
theorem tw17783859843131274014:True:=⟨⟩
theorem tw5071412327939943321:True:=⟨⟩
theorem tw4526881389914513428:True:=⟨⟩
theorem tw5590232498371695878:True:=⟨⟩
theorem tw16612331741718818515:True:=⟨⟩
theorem tw6491118196486620199:True:=⟨⟩
theorem tw6885214360128481674:True:=⟨⟩
theorem tw2095105360761779985:True:=⟨⟩
theorem tw3735150638455610340:True:=⟨⟩
theorem tw2920149284261455155:True:=⟨⟩
theorem tw3664424711883983056:True:=⟨⟩
theorem tw598956944188278281:True:=⟨⟩
theorem tw17576975557295073227:True:=⟨⟩
theorem tw7314081408670574914:True:=⟨⟩
theorem tw4671429814451907529:True:=⟨⟩
theorem tw10296497611174029103:True:=⟨⟩
theorem tw987869383939708018:True:=⟨⟩
theorem tw15240379268576122478:True:=⟨⟩
theorem tw7386116660499605909:True:=⟨⟩
theorem tw5790966258338625528:True:=⟨⟩
theorem tw14429230371299607918:True:=⟨⟩
theorem tw3584897518013459382:True:=⟨⟩
theorem tw7188692134583612594:True:=⟨⟩
theorem tw15360274220829721888:True:=⟨⟩
theorem tw17428532607074087071:True:=⟨⟩
theorem tw9505301332293026792:True:=⟨⟩
theorem tw7326723310030351153:True:=⟨⟩
theorem tw7249705126575804556:True:=⟨⟩
theorem tw3657543652526465285:True:=⟨⟩
theorem tw6480638250107114081:True:=⟨⟩
theorem tw10341860258655708415:True:=⟨⟩
theorem tw14713311804777202560:True:=⟨⟩
theorem tw13264354339760550358:True:=⟨⟩
theorem tw14562072457839527476:True:=⟨⟩
theorem tw2722852734226103192:True:=⟨⟩
theorem tw17009415399725018624:True:=⟨⟩
theorem tw3217022616335106338:True:=⟨⟩
theorem tw13305523845174962083:True:=⟨⟩
theorem tw2933308724806544037:True:=⟨⟩
theorem tw13994475860397038760:True:=⟨⟩
theorem tw13422432716488540661:True:=⟨⟩
theorem tw2267912224990424062:True:=⟨⟩
theorem tw8500458220134822360:True:=⟨⟩
theorem tw14453841093610474573:True:=⟨⟩
theorem tw13576654369662418201:True:=⟨⟩
theorem tw14502225709538309166:True:=⟨⟩
theorem tw9601329371697537090:True:=⟨⟩
theorem tw17377934564383891116:True:=⟨⟩
theorem tw10361075674979980167:True:=⟨⟩
theorem tw5189898811279602637:True:=⟨⟩
theorem tw4292522238394942308:True:=⟨⟩
theorem tw6624316729101989866:True:=⟨⟩
theorem tw8455645898260960030:True:=⟨⟩
theorem tw9227541089923242437:True:=⟨⟩
theorem tw6930518751129746686:True:=⟨⟩
theorem tw16759193500350966715:True:=⟨⟩
theorem tw5105846836358774362:True:=⟨⟩
theorem tw3874152929960365753:True:=⟨⟩
theorem tw6143595290313323761:True:=⟨⟩
theorem tw3671754024666584971:True:=⟨⟩
theorem tw5444345374180229054:True:=⟨⟩
theorem tw14114763150826241340:True:=⟨⟩
theorem tw2617181576586992344:True:=⟨⟩
theorem tw2446451932059125521:True:=⟨⟩
theorem tw17391775962083533515:True:=⟨⟩
theorem tw16866024460163772082:True:=⟨⟩
theorem tw2788377495573325354:True:=⟨⟩
theorem tw13370750898655102155:True:=⟨⟩
theorem tw17470836177267949868:True:=⟨⟩
theorem tw4656485037274611717:True:=⟨⟩
theorem tw8163011886388404031:True:=⟨⟩
theorem tw8410488445778877200:True:=⟨⟩
theorem tw13983857475226248213:True:=⟨⟩
theorem tw15299407806266782574:True:=⟨⟩
theorem tw8973803690348224638:True:=⟨⟩
theorem tw15451780782824253742:True:=⟨⟩
theorem tw372964977893139469:True:=⟨⟩
theorem tw12718909917080609646:True:=⟨⟩
theorem tw1368107221856924347:True:=⟨⟩
theorem tw18062624165398249997:True:=⟨⟩
theorem tw10801874191123338550:True:=⟨⟩
theorem tw16900427199656544559:True:=⟨⟩
theorem tw5398424786039705171:True:=⟨⟩
theorem tw1897025099450329940:True:=⟨⟩
theorem tw13134186033006778460:True:=⟨⟩
theorem tw6674990990233134667:True:=⟨⟩
theorem tw3676687333765336102:True:=⟨⟩
theorem tw13167462122316868159:True:=⟨⟩
theorem tw15996449679401966620:True:=⟨⟩
theorem tw1124271682379634556:True:=⟨⟩
theorem tw419386298079150103:True:=⟨⟩
theorem tw13713866747541496747:True:=⟨⟩
theorem tw1139600151236580504:True:=⟨⟩
theorem tw2619622883677149074:True:=⟨⟩
theorem tw8716659796364181309:True:=⟨⟩
theorem tw2742194189697913485:True:=⟨⟩
theorem tw11732849358908057107:True:=⟨⟩
theorem tw450566749975022562:True:=⟨⟩
theorem tw12865423146811077096:True:=⟨⟩
theorem tw76412952228603488:True:=⟨⟩
theorem tw2029088862249889922:True:=⟨⟩
theorem tw775762912060472103:True:=⟨⟩
theorem tw10333212225245001580:True:=⟨⟩
theorem tw7817637940432870852:True:=⟨⟩
theorem tw8017866829061265141:True:=⟨⟩
theorem tw3612091147836175635:True:=⟨⟩
theorem tw802326456924717552:True:=⟨⟩
theorem tw17337222044243258637:True:=⟨⟩
theorem tw16415559393655328363:True:=⟨⟩
theorem tw16736118626332596326:True:=⟨⟩
theorem tw10783980745131425670:True:=⟨⟩
theorem tw18359398811046599889:True:=⟨⟩
theorem tw2731995056826638727:True:=⟨⟩
theorem tw15646934709686841381:True:=⟨⟩
theorem tw15508944514630427714:True:=⟨⟩
theorem tw18080296680138586075:True:=⟨⟩
theorem tw8420165910927482534:True:=⟨⟩
theorem tw14810493832863049995:True:=⟨⟩
theorem tw18374746225686918389:True:=⟨⟩
theorem tw12166907935582030026:True:=⟨⟩
theorem tw18404935858338921730:True:=⟨⟩
theorem tw16368619182151815931:True:=⟨⟩
theorem tw870079450109401425:True:=⟨⟩
theorem tw2479311146797828861:True:=⟨⟩
theorem tw2968346561183084112:True:=⟨⟩
theorem tw7744093853086628109:True:=⟨⟩
theorem tw16120041803238788101:True:=⟨⟩
theorem tw10996937224433265937:True:=⟨⟩
theorem tw5341432206176310031:True:=⟨⟩
theorem tw11689902799995417681:True:=⟨⟩
theorem tw4597200072644226624:True:=⟨⟩
theorem tw6664487174759623829:True:=⟨⟩
theorem tw6468107147075657394:True:=⟨⟩
theorem tw18289109515434150305:True:=⟨⟩
theorem tw13928562000808390012:True:=⟨⟩
theorem tw12287887523310495049:True:=⟨⟩
theorem tw9739860059890490050:True:=⟨⟩
theorem tw6057728870046649322:True:=⟨⟩
theorem tw15361541807878343388:True:=⟨⟩
theorem tw6733462575251390621:True:=⟨⟩
theorem tw8388089289598778967:True:=⟨⟩
theorem tw13364640907079947876:True:=⟨⟩
theorem tw8107780213005350392:True:=⟨⟩
theorem tw9410359166525395380:True:=⟨⟩
theorem tw2220570432770164149:True:=⟨⟩
theorem tw1752352281038534220:True:=⟨⟩
theorem tw2699391937584445575:True:=⟨⟩
theorem tw9038659593494541401:True:=⟨⟩
theorem tw16843226685827341786:True:=⟨⟩
theorem tw10010203797729834575:True:=⟨⟩
theorem tw15836908640704697380:True:=⟨⟩
theorem tw8237333600419904120:True:=⟨⟩
theorem tw14466935161476858967:True:=⟨⟩
theorem tw14877882586016980531:True:=⟨⟩
theorem tw4002441696211005659:True:=⟨⟩
theorem tw17921175469725437805:True:=⟨⟩
theorem tw517144808224063464:True:=⟨⟩
theorem tw7737320934136571279:True:=⟨⟩
theorem tw4250950275838387964:True:=⟨⟩
theorem tw3418912648064540324:True:=⟨⟩
theorem tw7557910624720293991:True:=⟨⟩
theorem tw18415971267559613563:True:=⟨⟩
theorem tw55027467381167213:True:=⟨⟩
theorem tw4159251561096739476:True:=⟨⟩
theorem tw3466862049968707471:True:=⟨⟩
theorem tw1054488965285714247:True:=⟨⟩
theorem tw18016941796951652274:True:=⟨⟩
theorem tw16388256327817776035:True:=⟨⟩
theorem tw4551080515912023512:True:=⟨⟩
theorem tw2050295075708095047:True:=⟨⟩
theorem tw15503665604740900718:True:=⟨⟩
theorem tw13090165191389475591:True:=⟨⟩
theorem tw17315540178315561739:True:=⟨⟩
theorem tw672699306608606093:True:=⟨⟩
theorem tw13191473780850816973:True:=⟨⟩
theorem tw8297286125493194097:True:=⟨⟩
theorem tw6431110157172167083:True:=⟨⟩
theorem tw3242435153667248048:True:=⟨⟩
theorem tw151297168226168136:True:=⟨⟩
theorem tw17687602583917657593:True:=⟨⟩
theorem tw7325726471975496349:True:=⟨⟩
theorem tw12318557346453588183:True:=⟨⟩
theorem tw1142465760834251562:True:=⟨⟩
theorem tw864819663365544661:True:=⟨⟩
theorem tw11263669390164206178:True:=⟨⟩
theorem tw2680655200719965100:True:=⟨⟩
theorem tw16840627104734473223:True:=⟨⟩
theorem tw6345181382737326586:True:=⟨⟩
theorem tw350670483859837877:True:=⟨⟩
theorem tw7913636548009798097:True:=⟨⟩
theorem tw10596656941412748465:True:=⟨⟩
theorem tw5702910450625016506:True:=⟨⟩
theorem tw16735530243724565655:True:=⟨⟩
theorem tw2683898200743741643:True:=⟨⟩
theorem tw6694047246710070196:True:=⟨⟩
theorem tw1617357707322924660:True:=⟨⟩
theorem tw14042817526060737062:True:=⟨⟩
theorem tw1275901062530889299:True:=⟨⟩
theorem tw10606312069826294415:True:=⟨⟩
theorem tw15817181387143870920:True:=⟨⟩
theorem tw13709580248569299487:True:=⟨⟩
theorem tw15918733279669447828:True:=⟨⟩
theorem tw15498596964979890660:True:=⟨⟩
theorem tw17916939684832112104:True:=⟨⟩
theorem tw13990698242589431971:True:=⟨⟩
theorem tw5523086135645875356:True:=⟨⟩
theorem tw6906291655842520137:True:=⟨⟩
theorem tw8637452081102412489:True:=⟨⟩
theorem tw15177526630643400193:True:=⟨⟩
theorem tw18444284757076569719:True:=⟨⟩
theorem tw5118827330378232414:True:=⟨⟩
theorem tw3969286963782609292:True:=⟨⟩
theorem tw7892811243723596987:True:=⟨⟩
theorem tw14861896470697024400:True:=⟨⟩
theorem tw5005317128667965579:True:=⟨⟩
theorem tw15383718091736126541:True:=⟨⟩
theorem tw1950521091445644615:True:=⟨⟩
theorem tw9854310039474760501:True:=⟨⟩
theorem tw8628236747792435071:True:=⟨⟩
theorem tw2555065506035805374:True:=⟨⟩
theorem tw13290321428070320777:True:=⟨⟩
theorem tw17030962893124633753:True:=⟨⟩
theorem tw12427389293880184781:True:=⟨⟩
theorem tw11961350612320602522:True:=⟨⟩
theorem tw18326957874037197240:True:=⟨⟩
theorem tw6923572534111837185:True:=⟨⟩
theorem tw7249145317326752796:True:=⟨⟩
theorem tw11408453963512735496:True:=⟨⟩
theorem tw8507776931139520737:True:=⟨⟩
theorem tw216529984938456764:True:=⟨⟩
theorem tw11468358511172941013:True:=⟨⟩
theorem tw13307591127769906961:True:=⟨⟩
theorem tw14214845130331304391:True:=⟨⟩
theorem tw14372152842798730730:True:=⟨⟩
theorem tw15024216053386777475:True:=⟨⟩
theorem tw9503340733035011235:True:=⟨⟩
theorem tw3561193834555079511:True:=⟨⟩
theorem tw305557533498188196:True:=⟨⟩
theorem tw8485949089215259265:True:=⟨⟩
theorem tw17565814175750979855:True:=⟨⟩
theorem tw8720027088463671890:True:=⟨⟩
theorem tw12322150652039217950:True:=⟨⟩
theorem tw4258143625173308034:True:=⟨⟩
theorem tw11577829705659331004:True:=⟨⟩
theorem tw6684265986288010511:True:=⟨⟩
theorem tw16994376123345812558:True:=⟨⟩
theorem tw2675166985342186458:True:=⟨⟩
theorem tw11168319343850128449:True:=⟨⟩
theorem tw10968536479657739408:True:=⟨⟩
theorem tw6265675901050258516:True:=⟨⟩
theorem tw11533307084868028949:True:=⟨⟩
theorem tw16204670001084760307:True:=⟨⟩
theorem tw5379463472682653830:True:=⟨⟩
theorem tw3698484244233388692:True:=⟨⟩
theorem tw17981982808018919739:True:=⟨⟩
theorem tw14248925298954806443:True:=⟨⟩
theorem tw7681529838311687354:True:=⟨⟩
theorem tw3512812017678644602:True:=⟨⟩
theorem tw7436774141650363327:True:=⟨⟩
theorem tw7847650389618582240:True:=⟨⟩
theorem tw10187264123177260123:True:=⟨⟩
theorem tw10643057118474118344:True:=⟨⟩
theorem tw17545328352263074274:True:=⟨⟩
theorem tw12443789822770055382:True:=⟨⟩
theorem tw4231656071295301730:True:=⟨⟩
theorem tw10617020205504526918:True:=⟨⟩
theorem tw1040915598704419856:True:=⟨⟩
theorem tw5235370132326077648:True:=⟨⟩
theorem tw5868845118606482295:True:=⟨⟩
theorem tw3378803678994701225:True:=⟨⟩
theorem tw8566151710794823266:True:=⟨⟩
theorem tw14308104382005812605:True:=⟨⟩
theorem tw11620634932572840514:True:=⟨⟩
theorem tw7657828476027519975:True:=⟨⟩
theorem tw6286779285267259847:True:=⟨⟩
theorem tw16509065781470453940:True:=⟨⟩
theorem tw9765863564114394896:True:=⟨⟩
theorem tw14015244266792743902:True:=⟨⟩
theorem tw9016798869158615873:True:=⟨⟩
theorem tw15755962551988530747:True:=⟨⟩
theorem tw14996135249977892343:True:=⟨⟩
theorem tw10549977736560136457:True:=⟨⟩
theorem tw8735323631387419056:True:=⟨⟩
theorem tw2770563814800254177:True:=⟨⟩
theorem tw297971269722091814:True:=⟨⟩
theorem tw9831455883205970180:True:=⟨⟩
theorem tw10006222313960134694:True:=⟨⟩
theorem tw8922926602274725614:True:=⟨⟩
theorem tw11093206078495630212:True:=⟨⟩
theorem tw6749217079512962374:True:=⟨⟩
theorem tw15740088241188596515:True:=⟨⟩
theorem tw302023382947574297:True:=⟨⟩
theorem tw17104280840954017025:True:=⟨⟩
theorem tw4898356984482387957:True:=⟨⟩
theorem tw14705559076539443318:True:=⟨⟩
theorem tw12379415707883124570:True:=⟨⟩
theorem tw12958502747184954254:True:=⟨⟩
theorem tw7100016671515904942:True:=⟨⟩
theorem tw16793365374058956912:True:=⟨⟩
theorem tw9682687983338836895:True:=⟨⟩
theorem tw12043218685254973450:True:=⟨⟩
theorem tw16526113553464788058:True:=⟨⟩
theorem tw12540527436937284434:True:=⟨⟩
theorem tw3909029901177050473:True:=⟨⟩
theorem tw8814567910327776732:True:=⟨⟩
theorem tw15766219058475960075:True:=⟨⟩
theorem tw104434173382791472:True:=⟨⟩
theorem tw13889484949932952446:True:=⟨⟩
theorem tw2544169868661182894:True:=⟨⟩
theorem tw4058662728301269685:True:=⟨⟩
theorem tw304654302220672320:True:=⟨⟩
theorem tw5969682004907312646:True:=⟨⟩
theorem tw12281417065363983159:True:=⟨⟩
theorem tw7135523219777685258:True:=⟨⟩
theorem tw16656781636731879198:True:=⟨⟩
theorem tw2125386657190883914:True:=⟨⟩
theorem tw11318228943295840146:True:=⟨⟩
theorem tw6912233166142098652:True:=⟨⟩
theorem tw17788931634197215145:True:=⟨⟩
theorem tw4213018616267185653:True:=⟨⟩
theorem tw5667650583090716360:True:=⟨⟩
theorem tw9572121911122791463:True:=⟨⟩
theorem tw6883741973766446791:True:=⟨⟩
theorem tw16354691339474908690:True:=⟨⟩
theorem tw4796303294375832693:True:=⟨⟩
theorem tw3949973439248644570:True:=⟨⟩
theorem tw5303079699428457377:True:=⟨⟩
theorem tw16262243036561855896:True:=⟨⟩
theorem tw6623532728838073528:True:=⟨⟩
theorem tw3195522803047326042:True:=⟨⟩
theorem tw4566856676736034171:True:=⟨⟩
theorem tw7158002623345892728:True:=⟨⟩
theorem tw12425085872883035938:True:=⟨⟩
theorem tw7213333562754528385:True:=⟨⟩
theorem tw12209182163369298222:True:=⟨⟩
theorem tw18229784292405043182:True:=⟨⟩
theorem tw16882738081622503669:True:=⟨⟩
theorem tw9152664641465651067:True:=⟨⟩
theorem tw16044733080236030384:True:=⟨⟩
theorem tw15696354942287192291:True:=⟨⟩
theorem tw17576949682797635024:True:=⟨⟩
theorem tw4134505453457115739:True:=⟨⟩
theorem tw12177151635709734333:True:=⟨⟩
theorem tw11828478481110319688:True:=⟨⟩
theorem tw17395277212465857529:True:=⟨⟩
theorem tw5969987386201385886:True:=⟨⟩
theorem tw3548060758652744671:True:=⟨⟩
theorem tw81815255157605957:True:=⟨⟩
theorem tw10195997230039290492:True:=⟨⟩
theorem tw17469865338272021226:True:=⟨⟩
theorem tw6203543418390704334:True:=⟨⟩
theorem tw6829641428016954087:True:=⟨⟩
theorem tw17492772389151264855:True:=⟨⟩
theorem tw11430207588045935325:True:=⟨⟩
theorem tw3788345659303708978:True:=⟨⟩
theorem tw1708315994803479435:True:=⟨⟩
theorem tw5058314954733539658:True:=⟨⟩
theorem tw5163715390036670947:True:=⟨⟩
theorem tw443688265066261825:True:=⟨⟩
theorem tw1676862907878916244:True:=⟨⟩
theorem tw12622498126234240261:True:=⟨⟩
theorem tw9800703332001039478:True:=⟨⟩
theorem tw1492452104121835379:True:=⟨⟩
theorem tw8746941081350896204:True:=⟨⟩
theorem tw795583310449317561:True:=⟨⟩
theorem tw7669972870368051581:True:=⟨⟩
theorem tw16752354649701903923:True:=⟨⟩
theorem tw11053662475850362967:True:=⟨⟩
theorem tw12193372218175167114:True:=⟨⟩
theorem tw17420174224997489956:True:=⟨⟩
theorem tw381845443943030031:True:=⟨⟩
theorem tw1805163160381243805:True:=⟨⟩
theorem tw2394881407643693062:True:=⟨⟩
theorem tw1107088416671253978:True:=⟨⟩
theorem tw8672883130414831044:True:=⟨⟩
theorem tw8538268897159353584:True:=⟨⟩
theorem tw17160434163424456010:True:=⟨⟩
theorem tw8321918168302905379:True:=⟨⟩
theorem tw1304757597395314617:True:=⟨⟩
theorem tw12894197372075662830:True:=⟨⟩
theorem tw16149628235652541579:True:=⟨⟩
theorem tw8235891563360409721:True:=⟨⟩
theorem tw13303987763403120937:True:=⟨⟩
theorem tw1655259298481077034:True:=⟨⟩
theorem tw11994683656316670133:True:=⟨⟩
theorem tw16414630628198896168:True:=⟨⟩
theorem tw12210559395081530917:True:=⟨⟩
theorem tw9511011655687381423:True:=⟨⟩
theorem tw11134249225346278790:True:=⟨⟩
theorem tw5738303106652476479:True:=⟨⟩
theorem tw8204474986945543665:True:=⟨⟩
theorem tw17240160907184977327:True:=⟨⟩
theorem tw9308151640839208011:True:=⟨⟩
theorem tw965346924571166687:True:=⟨⟩
theorem tw10797620697341660853:True:=⟨⟩
theorem tw17555404714803837181:True:=⟨⟩
theorem tw1117029662656177491:True:=⟨⟩
theorem tw17003929029777066486:True:=⟨⟩
theorem tw13532860479073427719:True:=⟨⟩
theorem tw18200808041648558556:True:=⟨⟩
theorem tw16734371015571099844:True:=⟨⟩
theorem tw2707679213066786127:True:=⟨⟩
theorem tw12841572728458906558:True:=⟨⟩
theorem tw2581206410525282061:True:=⟨⟩
theorem tw14615657086365298920:True:=⟨⟩
theorem tw8340158742958640245:True:=⟨⟩
theorem tw16054190913257422852:True:=⟨⟩
theorem tw16739174306508632950:True:=⟨⟩
theorem tw1814787853859245837:True:=⟨⟩
theorem tw13326734554550294991:True:=⟨⟩
theorem tw17258124492514966302:True:=⟨⟩
theorem tw2411195145006440666:True:=⟨⟩
theorem tw5405092056839124451:True:=⟨⟩
theorem tw9673933992889287130:True:=⟨⟩
theorem tw6973401727384321114:True:=⟨⟩
theorem tw3938735190981452848:True:=⟨⟩
theorem tw14319750081657075607:True:=⟨⟩
theorem tw14120148312427719287:True:=⟨⟩
theorem tw16919938111736474924:True:=⟨⟩
theorem tw11371930050899884696:True:=⟨⟩
theorem tw6662652255960138227:True:=⟨⟩
theorem tw15740948416001004644:True:=⟨⟩
theorem tw10399464001100048223:True:=⟨⟩
theorem tw12896061891902650272:True:=⟨⟩
theorem tw7761843605638006849:True:=⟨⟩
theorem tw6176994582329460227:True:=⟨⟩
theorem tw13318506193475082254:True:=⟨⟩
theorem tw16128028805679967097:True:=⟨⟩
theorem tw594810645892935528:True:=⟨⟩
theorem tw12397598024624889033:True:=⟨⟩
theorem tw8892184565913893157:True:=⟨⟩
theorem tw6185767955086497853:True:=⟨⟩
theorem tw1162646723170261995:True:=⟨⟩
theorem tw10219655510578893393:True:=⟨⟩
theorem tw10180943152330463961:True:=⟨⟩
theorem tw9442318146202087700:True:=⟨⟩
theorem tw5571243529121415630:True:=⟨⟩
theorem tw6503730183909636620:True:=⟨⟩
theorem tw16085473023203611486:True:=⟨⟩
theorem tw4951766788466123468:True:=⟨⟩
theorem tw8170299122808406783:True:=⟨⟩
theorem tw5728218623943512802:True:=⟨⟩
theorem tw6659320528611288953:True:=⟨⟩
theorem tw2312856594315299383:True:=⟨⟩
theorem tw14029182922437419836:True:=⟨⟩
theorem tw17504273579162756690:True:=⟨⟩
theorem tw5766051744304087583:True:=⟨⟩
theorem tw3848903353894205444:True:=⟨⟩
theorem tw17226846203573267761:True:=⟨⟩
theorem tw1047907039808853306:True:=⟨⟩
theorem tw17176029603704830031:True:=⟨⟩
theorem tw5151264090131730833:True:=⟨⟩
theorem tw16896751376397280635:True:=⟨⟩
theorem tw6859976401760118174:True:=⟨⟩
theorem tw13223034962123697568:True:=⟨⟩
theorem tw9951221954081769418:True:=⟨⟩
theorem tw1142415686869020238:True:=⟨⟩
theorem tw2369445192022557226:True:=⟨⟩
theorem tw17089494485692210459:True:=⟨⟩
theorem tw16196420915677631385:True:=⟨⟩
theorem tw6196800358849779857:True:=⟨⟩
theorem tw12725264436868645240:True:=⟨⟩
theorem tw12564220515667953714:True:=⟨⟩
theorem tw7587601194962177611:True:=⟨⟩
theorem tw3486219094355674750:True:=⟨⟩
theorem tw14709367294833977003:True:=⟨⟩
theorem tw17830291351795818772:True:=⟨⟩
theorem tw5915399644114372684:True:=⟨⟩
theorem tw8620165645458168473:True:=⟨⟩
theorem tw9336646079559772112:True:=⟨⟩
theorem tw7845129631348957993:True:=⟨⟩
theorem tw12218787953657430602:True:=⟨⟩
theorem tw2665807947273092163:True:=⟨⟩
theorem tw2732273902793177162:True:=⟨⟩
theorem tw17355269125676882429:True:=⟨⟩
theorem tw1192657577511650299:True:=⟨⟩
theorem tw14697636140705633519:True:=⟨⟩
theorem tw7230903212357928904:True:=⟨⟩
theorem tw10947151441379659809:True:=⟨⟩
theorem tw1974259917200649262:True:=⟨⟩
theorem tw15877122091014420850:True:=⟨⟩
theorem tw11334350811105764591:True:=⟨⟩
theorem tw11159431927160009238:True:=⟨⟩
theorem tw16325430554902658873:True:=⟨⟩
theorem tw18297691965846887475:True:=⟨⟩
theorem tw10648311167861321448:True:=⟨⟩
theorem tw12643491718579748851:True:=⟨⟩
theorem tw15213620147059012194:True:=⟨⟩
theorem tw4177254973167742082:True:=⟨⟩
theorem tw3423177367516475676:True:=⟨⟩
theorem tw3831216023754155268:True:=⟨⟩
theorem tw5186518429493523239:True:=⟨⟩
theorem tw17912322529849362164:True:=⟨⟩
theorem tw1585457916280141200:True:=⟨⟩
theorem tw16420938139371093754:True:=⟨⟩
theorem tw5648408011753718230:True:=⟨⟩
theorem tw11141966352661209427:True:=⟨⟩
theorem tw1717825165581474212:True:=⟨⟩
theorem tw14380302785272570777:True:=⟨⟩
theorem tw8800459187187324500:True:=⟨⟩
theorem tw679676368844127653:True:=⟨⟩
theorem tw14632489290957082403:True:=⟨⟩
theorem tw13385996262653078937:True:=⟨⟩
theorem tw72247145696351765:True:=⟨⟩
theorem tw13759081321499198575:True:=⟨⟩
theorem tw12609506754962336506:True:=⟨⟩
theorem tw12191294079412454307:True:=⟨⟩
theorem tw1227046207026093345:True:=⟨⟩
theorem tw4773702212245658779:True:=⟨⟩
theorem tw17683472795295644477:True:=⟨⟩
theorem tw9229161468869434483:True:=⟨⟩
theorem tw7855079511596107753:True:=⟨⟩
theorem tw7387763944681370771:True:=⟨⟩
theorem tw16441578918305252802:True:=⟨⟩
theorem tw16068562728529669930:True:=⟨⟩
theorem tw4840481374290595910:True:=⟨⟩
theorem tw16757647847745179834:True:=⟨⟩
theorem tw5483185372664623402:True:=⟨⟩
theorem tw6487610083215253720:True:=⟨⟩
theorem tw7740461459972228597:True:=⟨⟩
theorem tw10505224238033894595:True:=⟨⟩
theorem tw12317137736924338119:True:=⟨⟩
theorem tw15966430410579761919:True:=⟨⟩
theorem tw2564807258711394888:True:=⟨⟩
theorem tw13802547742096326172:True:=⟨⟩
theorem tw17774833976778514315:True:=⟨⟩
theorem tw8347795973495727564:True:=⟨⟩
theorem tw18085771088847121727:True:=⟨⟩
theorem tw5513142621748847562:True:=⟨⟩
theorem tw2782073688633401757:True:=⟨⟩
theorem tw314455870634268127:True:=⟨⟩
theorem tw11459358961799972967:True:=⟨⟩
theorem tw17555251805378815213:True:=⟨⟩
theorem tw2596539476470345881:True:=⟨⟩
theorem tw12502491890553978562:True:=⟨⟩
theorem tw11470690223818410786:True:=⟨⟩
theorem tw18186074749648716422:True:=⟨⟩
theorem tw1123975283337734383:True:=⟨⟩
theorem tw5938664839603501006:True:=⟨⟩
theorem tw14371913498598963198:True:=⟨⟩
theorem tw3009087140008350439:True:=⟨⟩
theorem tw6220391956798857122:True:=⟨⟩
theorem tw813151783613554594:True:=⟨⟩
theorem tw953821971998124167:True:=⟨⟩
theorem tw3663364146628395187:True:=⟨⟩
theorem tw1007256952997204316:True:=⟨⟩
theorem tw3207569582813703071:True:=⟨⟩
theorem tw2377541652452675900:True:=⟨⟩
theorem tw2104741419117168686:True:=⟨⟩
theorem tw14608685727046917156:True:=⟨⟩
theorem tw3120133295221510679:True:=⟨⟩
theorem tw2965125352208521119:True:=⟨⟩
theorem tw387204362621204559:True:=⟨⟩
theorem tw9407396174263392564:True:=⟨⟩
theorem tw1886144042066472794:True:=⟨⟩
theorem tw11145643937294416527:True:=⟨⟩
theorem tw17431308487043992063:True:=⟨⟩
theorem tw7538252964068480738:True:=⟨⟩
theorem tw11520865232209809239:True:=⟨⟩
theorem tw17005921009465767190:True:=⟨⟩
theorem tw8912170899635468890:True:=⟨⟩
theorem tw8363718466572441477:True:=⟨⟩
theorem tw4381239804790494735:True:=⟨⟩
theorem tw17085176360113175178:True:=⟨⟩
theorem tw10372856604765933493:True:=⟨⟩
theorem tw2170277104671012619:True:=⟨⟩
theorem tw2601905985415302144:True:=⟨⟩
theorem tw18330144715369815205:True:=⟨⟩
theorem tw4940147422707163885:True:=⟨⟩
theorem tw6292954644110606532:True:=⟨⟩
theorem tw10353446712322349686:True:=⟨⟩
theorem tw2009410202504348048:True:=⟨⟩
theorem tw18236624570336363585:True:=⟨⟩
theorem tw15823732540823425666:True:=⟨⟩
theorem tw7717162694582976202:True:=⟨⟩
theorem tw16352630495959832749:True:=⟨⟩
theorem tw13968125046926948103:True:=⟨⟩
theorem tw13710211086531791108:True:=⟨⟩
theorem tw18063644159110109576:True:=⟨⟩
theorem tw3473093325804163894:True:=⟨⟩
theorem tw11423202765487971197:True:=⟨⟩
theorem tw887695700811335699:True:=⟨⟩
theorem tw15748125925826647682:True:=⟨⟩
theorem tw4859757453598101857:True:=⟨⟩
theorem tw9833397302626899308:True:=⟨⟩
theorem tw15985680467844229196:True:=⟨⟩
theorem tw6898770573198911631:True:=⟨⟩
theorem tw17157282023139344501:True:=⟨⟩
theorem tw16123964013534891561:True:=⟨⟩
theorem tw8265311939077410998:True:=⟨⟩
theorem tw11334203419191126389:True:=⟨⟩
theorem tw12756434147638494346:True:=⟨⟩
theorem tw7439886461454727182:True:=⟨⟩
theorem tw2047500489365003465:True:=⟨⟩
theorem tw7033079012710635876:True:=⟨⟩
theorem tw3453223234828964814:True:=⟨⟩
theorem tw15349318334595610263:True:=⟨⟩
theorem tw9822532417609929294:True:=⟨⟩
theorem tw3474246075231452896:True:=⟨⟩
theorem tw8144448655795402552:True:=⟨⟩
theorem tw4691186174975459493:True:=⟨⟩
theorem tw2398549964826212201:True:=⟨⟩
theorem tw9332579688445097367:True:=⟨⟩
theorem tw9590619109379692515:True:=⟨⟩
theorem tw11189890337720088615:True:=⟨⟩
theorem tw3846862658102513837:True:=⟨⟩
theorem tw8833053369097974544:True:=⟨⟩
theorem tw32865551896584297:True:=⟨⟩
theorem tw9908339238214195531:True:=⟨⟩
theorem tw2975709217455756120:True:=⟨⟩
theorem tw6821124136996835843:True:=⟨⟩
theorem tw3976154599441133093:True:=⟨⟩
theorem tw12643520174271941249:True:=⟨⟩
theorem tw13044034144603486326:True:=⟨⟩
theorem tw2565563351968343141:True:=⟨⟩
theorem tw14518420923928995300:True:=⟨⟩
theorem tw10634900883605911005:True:=⟨⟩
theorem tw2809488002615124206:True:=⟨⟩
theorem tw6263863080660174929:True:=⟨⟩
theorem tw11779653239440661071:True:=⟨⟩
theorem tw8645369167282567922:True:=⟨⟩
theorem tw8184561461823581802:True:=⟨⟩
theorem tw2341375176344054394:True:=⟨⟩
theorem tw6211089042160764376:True:=⟨⟩
theorem tw5476889619067714990:True:=⟨⟩
theorem tw16155163154822807229:True:=⟨⟩
theorem tw9743097575036673082:True:=⟨⟩
theorem tw137813150952109960:True:=⟨⟩
theorem tw7198060816514059695:True:=⟨⟩
theorem tw16453443671601555132:True:=⟨⟩
theorem tw6042063481754889096:True:=⟨⟩
theorem tw9631074621892390191:True:=⟨⟩
theorem tw15524323707512967209:True:=⟨⟩
theorem tw13047834502658803893:True:=⟨⟩
theorem tw8013090884974467112:True:=⟨⟩
theorem tw15248220891095644897:True:=⟨⟩
theorem tw14066626035482655557:True:=⟨⟩
theorem tw10194810499950245846:True:=⟨⟩
theorem tw705360758644809490:True:=⟨⟩
theorem tw7160873610591055699:True:=⟨⟩
theorem tw10577396366154187472:True:=⟨⟩
theorem tw16753658254399821694:True:=⟨⟩
theorem tw15873491276070852124:True:=⟨⟩
theorem tw5850499497852442878:True:=⟨⟩
theorem tw16352725718246490361:True:=⟨⟩
theorem tw18034075008235765660:True:=⟨⟩
theorem tw12638030207367898728:True:=⟨⟩
theorem tw7438316178485321408:True:=⟨⟩
theorem tw4383139521930768336:True:=⟨⟩
theorem tw12117888159696746259:True:=⟨⟩
theorem tw8689318265317240412:True:=⟨⟩
theorem tw2514443458684651071:True:=⟨⟩
theorem tw1016984595167383106:True:=⟨⟩
theorem tw16533540343700365917:True:=⟨⟩
theorem tw7056866379899200501:True:=⟨⟩
theorem tw682014064893787789:True:=⟨⟩
theorem tw14082171712413598185:True:=⟨⟩
theorem tw3337584539547039419:True:=⟨⟩
theorem tw15401514717468139301:True:=⟨⟩
theorem tw6383614241601562808:True:=⟨⟩
theorem tw9149571693438533347:True:=⟨⟩
theorem tw10773188271377071773:True:=⟨⟩
theorem tw3331421620988305804:True:=⟨⟩
theorem tw2700199365505918788:True:=⟨⟩
theorem tw7429413206186439793:True:=⟨⟩
theorem tw231919175587332662:True:=⟨⟩
theorem tw10359867905803958813:True:=⟨⟩
theorem tw15690355392615275366:True:=⟨⟩
theorem tw5251713544086459897:True:=⟨⟩
theorem tw12488038555639769405:True:=⟨⟩
theorem tw16663450692288620524:True:=⟨⟩
theorem tw13310400573052568472:True:=⟨⟩
theorem tw501154541418245514:True:=⟨⟩
theorem tw2847958352784047137:True:=⟨⟩
theorem tw15125931889511115149:True:=⟨⟩
theorem tw4770301895538212512:True:=⟨⟩
theorem tw15404454927644166670:True:=⟨⟩
theorem tw1245559373397905713:True:=⟨⟩
theorem tw9843447840031818808:True:=⟨⟩
theorem tw7215319984434753242:True:=⟨⟩
theorem tw8729362747519067210:True:=⟨⟩
theorem tw16240068400928781132:True:=⟨⟩
theorem tw13007260833023717011:True:=⟨⟩
theorem tw859137505422859605:True:=⟨⟩
theorem tw18137363274558907533:True:=⟨⟩
theorem tw7600245330811189008:True:=⟨⟩
theorem tw17735899436944072409:True:=⟨⟩
theorem tw14428541309147478210:True:=⟨⟩
theorem tw9429129263215473398:True:=⟨⟩
theorem tw14309182039651084788:True:=⟨⟩
theorem tw4076138812419527698:True:=⟨⟩
theorem tw7191137982244381804:True:=⟨⟩
theorem tw4547113066930546574:True:=⟨⟩
theorem tw8393700709775954928:True:=⟨⟩
theorem tw3855276242980373810:True:=⟨⟩
theorem tw14166325574356235509:True:=⟨⟩
end top
section Head
open PySem PySem.W PyProof.Rows
theorem via {T P : Prop} (_ : T) (k : P) : P := k
def Impl (T P : Prop) : Prop := T → P
theorem ofImpl {T P : Prop} (k : Impl T P) (t : T) : P := k t
-- what the head looks at in the heap behind the top: the objects in one pass over the heap, not one by one
noncomputable def seen (x : Option Obj) : Option Obj := match x with
  | some ⟨_, _, .freed, _⟩ => none
  | o => o
noncomputable def pk (os : List Obj) : List Nat → Nat → List (Option Obj) :=
  @List.rec Obj (fun _ => List Nat → Nat → List (Option Obj)) (fun _ _ => []) (fun o _ ih as i => @List.rec Nat (fun _ => List (Option Obj)) [] (fun a r _ => @Bool.rec (fun _ => List (Option Obj)) (ih as (Nat.succ i)) (seen (some o) :: ih r (Nat.succ i)) (Nat.beq a i)) as) os
theorem pk_in : ∀ (os : List Obj) (K : Frag) (i : Nat), pk os (K.map (·.1)) i = K.map (fun p => some p.2) → ∀ p ∈ K, i ≤ p.1 ∧ seen (os[p.1 - i]?) = some p.2
  | [], [], _, _, _, hp => nomatch hp
  | [], _ :: _, _, e, _, _ => nomatch e
  | _ :: _, [], _, _, _, hp => nomatch hp
  | o :: os, q :: K, i, e, p, hp => by
    have e' : @Bool.rec (fun _ => List (Option Obj)) (pk os ((q :: K).map (·.1)) (Nat.succ i)) (seen (some o) :: pk os (K.map (·.1)) (Nat.succ i)) (Nat.beq q.1 i) = (q :: K).map (fun p => some p.2) := e
    have up : ∀ {a : Nat}, Nat.succ i ≤ a → (o :: os)[a - i]? = os[a - Nat.succ i]? := fun {a} h => by
      obtain ⟨d, rfl⟩ := Nat.exists_eq_add_of_le h
      rw [show Nat.succ i + d - i = d + 1 by omega, show Nat.succ i + d - Nat.succ i = d by omega]; rfl
    cases hb : Nat.beq q.1 i with
    | false =>
      rw [hb] at e'
      have := pk_in os (q :: K) (Nat.succ i) e' p hp
      exact ⟨Nat.le_of_succ_le this.1, by rw [up this.1]; exact this.2⟩
    | true =>
      rw [hb] at e'
      have hq : q.1 = i := Nat.eq_of_beq_eq_true hb
      injection e' with e1 e2
      rcases List.mem_cons.mp hp with rfl | hp
      · exact ⟨Nat.le_of_eq hq.symm, by rw [hq, Nat.sub_self]; exact e1⟩
      · have := pk_in os K (Nat.succ i) e2 p hp
        exact ⟨Nat.le_of_succ_le this.1, by rw [up this.1]; exact this.2⟩
theorem pk_of {K : Params → Frag} {as : List Addr} (e : ∀ P, as = (K P).map (·.1)) (w : World) (s : Shared) (x : pk s.heap.objs.toList as 0 = (K w.params).map fun p => some p.2) : InK K w s.heap := by
  refine Frag.in_of (e w.params) ?_
  rw [e w.params] at x ⊢
  rw [List.map_map]
  refine List.map_congr_left fun p hp => ?_
  have := (pk_in _ _ _ x p hp).2
  rw [Nat.sub_zero, Array.getElem?_toList] at this
  exact this
noncomputable def pHook (K : Params → Frag) (as : List Addr) (e : ∀ P, as = (K P).map (·.1)) : Hook :=
  ⟨List (Option Obj), fun s => pk s.heap.objs.toList as 0, fun w => (K w.params).map fun p => some p.2, InK K, pk_of e, InK.keeps⟩
theorem toK {K : Params → Frag} {as : List Addr} {e : ∀ P, as = (K P).map (·.1)} {w : World} {h : Heap} (Y : (pHook K as e).says w h) : (kHook K as e).says w h := Y
local macro_rules | `(tactic| o_head ($h:ident $k $a $f)) => `(tactic| o_head (@Mine.pHook $k $a $f))
-- the head: it leaves its constants, and the arrow Mine.top.key from the walk's goal to the claim
set_option maxHeartbeats 0 in
set_option Elab.async true in
theorem top (f : False) : PySem.Challenge.rw_aa0007_01.Holds :=
  let rec key : Impl _ PySem.Challenge.rw_aa0007_01.Holds := by
    intro h
    refine' Mine.via ?hc ?k2
    case k2 => (w_on; o_law; k_head; (case hw => w_witness2))
    case hc => exact h
  ofImpl key f.elim
-- the head leaves the walker's switch on: off again, as the parts were built
theorem offTop : Mine.top.heap_1_39 = Mine.top.heap_1_39 := by
  w_top off
  rfl
end Head
section TP0
open PySem PySem.W
set_option maxHeartbeats 4000000
noncomputable def nm (d : Nat) : Str := match d with
  | 0 => Str.ofString "a" | 1 => Str.ofString "b" | 2 => Str.ofString "ab" | 3 => Str.ofString " "
  | 4 => Str.ofString "a" | 5 => Str.ofString "b" | 6 => Str.ofString "'" | _ => Str.ofString "a"
noncomputable def wayG : Nat → Nat → List Str
  | 0, _ => []
  | f + 1, n => if n = 0 then [] else nm (n % 8) :: wayG f (n / 8)
theorem wayG_any : ∀ (f g n : Nat), n ≤ f → n ≤ g → wayG f n = wayG g n
  | 0, 0, _, _, _ => rfl
  | 0, g + 1, n, h, _ => by obtain rfl := Nat.le_zero.mp h; rfl
  | f + 1, 0, n, _, h => by obtain rfl := Nat.le_zero.mp h; rfl
  | f + 1, g + 1, n, hf, hg => by
    rw [wayG, wayG]
    by_cases h : n = 0
    · rw [if_pos h, if_pos h]
    · rw [if_neg h, if_neg h]
      have d := Nat.div_lt_self (Nat.pos_of_ne_zero h) (by decide : 1 < 8)
      rw [wayG_any f g (n / 8) (Nat.le_of_lt_succ (Nat.lt_of_lt_of_le d hf)) (Nat.le_of_lt_succ (Nat.lt_of_lt_of_le d hg))]
@[irreducible] noncomputable def wayF (n : Nat) : List Str := wayG n n
theorem wayF_pos {n : Nat} (h : 0 < n) : wayF n = nm (n % 8) :: wayF (n / 8) := by
  refine hideL ?_; intro gg1
  obtain ⟨m, rfl⟩ : ∃ m, n = m + 1 := ⟨n - 1, (Nat.succ_pred_eq_of_pos h).symm⟩
  k_unfold
  rw [wayF, wayF, wayG, if_neg (Nat.succ_ne_zero m)]
  rw [wayG_any m ((m + 1) / 8) ((m + 1) / 8) (Nat.le_of_lt_succ (Nat.div_lt_self h (by decide))) (Nat.le_refl _)]
theorem wayF_zero : wayF 0 = [] := by rw [wayF, wayG]
theorem wayF_len {n : Nat} (h : n < 512) : (wayF n).length ≤ 3 := by
  by_cases h0 : 0 < n
  · rw [wayF_pos h0, List.length_cons]
    by_cases h1 : 0 < n / 8
    · rw [wayF_pos h1, List.length_cons]
      by_cases h2 : 0 < n / 8 / 8
      · rw [wayF_pos h2, List.length_cons, (by (lia) : n / 8 / 8 / 8 = 0), wayF_zero]; simp
      · rw [(by (first | exact (Nat.le_antisymm (lin1 1 [_] 0 (.v 0) (.k 0) 1 (.v 0) (.k 0) (Nat.not_lt.mp h2) rfl (Eq.refl true)) (lin0 1 [_] (.k 0) (.v 0) rfl (Eq.refl true))) | omega) : n / 8 / 8 = 0), wayF_zero]; simp
    · rw [(by (first | exact (Nat.le_antisymm (lin1 1 [_] 0 (.v 0) (.k 0) 1 (.v 0) (.k 0) (Nat.not_lt.mp h1) rfl (Eq.refl true)) (lin0 1 [_] (.k 0) (.v 0) rfl (Eq.refl true))) | omega) : n / 8 = 0), wayF_zero]; simp
  · rw [(by (first | exact (Nat.le_antisymm (lin1 1 [_] 0 (.v 0) (.k 0) 1 (.v 0) (.k 0) (Nat.not_lt.mp h0) rfl (Eq.refl true)) (lin0 1 [_] (.k 0) (.v 0) rfl (Eq.refl true))) | omega) : n = 0), wayF_zero]; simp


noncomputable def tokF : List Nat → Nat → List Nat → Bool → Option (List Nat × Bool × Bool × List Nat)
  | [], st, tok, qd => if st = 32 ∨ st = 97 then some (tok, qd, true, []) else none
  | c :: r, st, tok, qd =>
    if st = 32 then (if c = 32 then none else if c = 39 ∨ c = 34 then tokF r c tok qd else tokF r 97 [c] qd)
    else if st = 97 then (if c = 32 then (if tok = [] ∧ qd = false then none else some (tok, qd, false, r)) else if c = 39 ∨ c = 34 then tokF r c tok qd else tokF r 97 (tok ++ [c]) qd)
    else if c = st then tokF r 97 tok true else tokF r st (tok ++ [c]) true
theorem tokF_cons (c : Nat) (r : List Nat) (st : Nat) (tok : List Nat) (qd : Bool) : tokF (c :: r) st tok qd = if st = 32 then (if c = 32 then none else if c = 39 ∨ c = 34 then tokF r c tok qd else tokF r 97 [c] qd)
    else if st = 97 then (if c = 32 then (if tok = [] ∧ qd = false then none else some (tok, qd, false, r)) else if c = 39 ∨ c = 34 then tokF r c tok qd else tokF r 97 (tok ++ [c]) qd)
    else if c = st then tokF r 97 tok true else tokF r st (tok ++ [c]) true := rfl
theorem tokF_nil (st : Nat) (tok : List Nat) (qd : Bool) : tokF [] st tok qd = if st = 32 ∨ st = 97 then some (tok, qd, true, []) else none := rfl
theorem tok32q {c : Nat} {r tok : List Nat} {qd : Bool} (h : c = 39 ∨ c = 34) : tokF (c :: r) 32 tok qd = tokF r c tok qd := by
  rw [tokF_cons, if_pos rfl, if_neg (by rintro rfl; revert h; decide), if_pos h]
theorem tok32o {c : Nat} {r tok : List Nat} {qd : Bool} (h1 : c ≠ 32) (h : ¬ (c = 39 ∨ c = 34)) : tokF (c :: r) 32 tok qd = tokF r 97 [c] qd := by
  rw [tokF_cons, if_pos rfl, if_neg h1, if_neg h]
theorem tok97q {c : Nat} {r tok : List Nat} {qd : Bool} (h : c = 39 ∨ c = 34) : tokF (c :: r) 97 tok qd = tokF r c tok qd := by
  rw [tokF_cons, if_neg (by decide), if_pos rfl, if_neg (by rintro rfl; revert h; decide), if_pos h]
theorem tok97o {c : Nat} {r tok : List Nat} {qd : Bool} (h1 : c ≠ 32) (h : ¬ (c = 39 ∨ c = 34)) : tokF (c :: r) 97 tok qd = tokF r 97 (tok ++ [c]) qd := by
  rw [tokF_cons, if_neg (by decide), if_pos rfl, if_neg h1, if_neg h]
theorem tok97s {r tok : List Nat} {qd : Bool} : tokF (32 :: r) 97 tok qd = if tok = [] ∧ qd = false then none else some (tok, qd, false, r) := by
  rw [tokF_cons, if_neg (by decide), if_pos rfl, if_pos rfl]
theorem tokqe {st : Nat} {r tok : List Nat} {qd : Bool} (h : st = 39 ∨ st = 34) : tokF (st :: r) st tok qd = tokF r 97 tok true := by
  rw [tokF_cons, if_neg (by rcases h with h | h <;> rw [h] <;> decide), if_neg (by rcases h with h | h <;> rw [h] <;> decide), if_pos rfl]
theorem tokqo {st c : Nat} {r tok : List Nat} {qd : Bool} (h : st = 39 ∨ st = 34) (hc : c ≠ st) : tokF (c :: r) st tok qd = tokF r st (tok ++ [c]) true := by
  rw [tokF_cons, if_neg (by rcases h with h | h <;> rw [h] <;> decide), if_neg (by rcases h with h | h <;> rw [h] <;> decide), if_neg hc]
noncomputable def okc (c : Nat) : Prop := c ≠ 10 ∧ c ≠ 9 ∧ c ≠ 13 ∧ c ≠ 92
noncomputable def tx (l : List Nat) : Str := ⟨l.toArray⟩


noncomputable def Toks : List (List Nat) → List Nat → Bool → Prop
  | [], r, f => f = true ∧ r = []
  | w :: ws, r, f => f = false ∧ ∃ qd f' r', tokF r 32 [] false = some (w, qd, f', r') ∧ ¬ (qd = false ∧ w = []) ∧ Toks ws r' f'


noncomputable def rep (c : Nat) (z : List Nat) (l : List Nat) : List Nat := l.flatMap fun k => if k = c then z else [k]
theorem rep_append (c : Nat) (z a b : List Nat) : rep c z (a ++ b) = rep c z a ++ rep c z b := by simp [rep]
theorem rep_free (c : Nat) (z : List Nat) : ∀ l : List Nat, c ∉ l → rep c z l = l
  | [], _ => rfl
  | k :: r, h => by
    have h1 : ¬ k = c := fun e => h (e ▸ List.mem_cons_self ..)
    have h2 : c ∉ r := fun m => h (List.mem_cons_of_mem _ m)
    show (if k = c then z else [k]) ++ rep c z r = _
    rw [if_neg h1, rep_free c z r h2]; rfl
theorem rep_join (c : Nat) (z : Str) : ∀ parts : List Str, (∀ p ∈ parts, c ∉ p.cps.toList) → rep c z.cps.toList (Str.join ⟨#[c]⟩ parts).cps.toList = (Str.join z parts).cps.toList
  | [], _ => rfl
  | [p], h => rep_free c _ _ (h p (List.mem_singleton.mpr rfl))
  | p :: q :: r, h => by
    have ih := rep_join c z (q :: r) fun a ha => h a (List.mem_cons_of_mem _ ha)
    show rep c z.cps.toList (p ++ ⟨#[c]⟩ ++ Str.join ⟨#[c]⟩ (q :: r)).cps.toList = (p ++ z ++ Str.join z (q :: r)).cps.toList
    simp only [Str.cps_append, Array.toList_append]
    rw [rep_append, rep_append, ih, rep_free c _ _ (h p (List.mem_cons_self ..))]
    congr 2
    show (if c = c then z.cps.toList else [c]) ++ [] = _
    rw [if_pos rfl, List.append_nil]
theorem replace_rep (x z : Str) (c : Nat) : (Txt.replace x ⟨#[c]⟩ z).cps.toList = rep c z.cps.toList x.cps.toList := by
  rw [StrLaws.replace_one, ← rep_join c z _ (StrLaws.split_free x c), StrLaws.join_split]
theorem rep_len (c : Nat) (z : List Nat) (hz : 1 ≤ z.length) : ∀ l : List Nat, (rep c z l).length ≤ z.length * l.length
  | [] => by simp [rep]
  | k :: r => by
    have ih := rep_len c z hz r
    show ((if k = c then z else [k]) ++ rep c z r).length ≤ _
    rw [List.length_append, List.length_cons, Nat.mul_add, Nat.mul_one]
    split
    · (first | exact (ch1 1 0 1 0 z (Eq.refl true)) | exact (ch0 0 1 (Eq.refl true)) | exact (lin1 3 [_, _, _] 0 (.a (.v 0) (.v 1)) (.a (.v 2) (.v 0)) 1 (.v 1) (.v 2) ih rfl (Eq.refl true)) | exact (ch2 0 1 0 200 1 1000 (Nat.le_of_eq xl) hj (Eq.refl true)) | exact (Nat.ne_of_gt (lin1 2 [_, _] 0 (.a (.k 0) (.k 1)) (.v 0) 1 (.a (.v 1) (.k 1)) (.v 0) (Nat.le_of_eq xl.symm) rfl (Eq.refl true))) | exact (ch1 0 20 1 100 hl (Eq.refl true)) | omega)
    · simp only [List.length_cons, List.length_nil]; (first | exact (lin2 3 [_, _, _] 0 (.a (.a (.k 0) (.k 1)) (.v 0)) (.a (.v 1) (.v 2)) 1 (.k 1) (.v 2) 1 (.v 0) (.v 1) hz ih rfl (Eq.refl true)) | omega)
theorem replace_q_len (x : Str) : (Txt.replace x (Str.ofString "'") (Str.ofString "'\"'\"'")).length ≤ 5 * x.length := by
  have h : (Txt.replace x (Str.ofString "'") (Str.ofString "'\"'\"'")).cps.toList.length ≤ 5 * x.cps.toList.length := by
    rw [(by decide +kernel : Str.ofString "'" = ⟨#[39]⟩), replace_rep]
    exact rep_len 39 _ (by decide +kernel) _
  simpa [Str.length] using h

noncomputable def quoteL (bad : Nat → Bool) (l : List Nat) : List Nat := if l.any bad then 39 :: rep 39 [39, 34, 39, 34, 39] l ++ [39] else l


section
open PySem.Sre
noncomputable def reCode : Array Nat := #[14, 17, 4, 1, 1, 21, 9, 0, 604043296, 1, 0, 0, 0, 0, 0, 8, 4, 0, 13, 14, 21, 9, 0, 604043296, 1, 0, 0, 0, 0, 0, 8, 4, 0, 1]
noncomputable def bad (c : Nat) : Bool := !((decide (c < 256) && (reCode.getD (7 + c / 32) 0).testBit (c % 32)) || isWord c)

end

noncomputable def quoteS (x : Str) : Str := if x.cps.toList.any bad then Str.ofString "'" ++ Txt.replace x (Str.ofString "'") (Str.ofString "'\"'\"'") ++ Str.ofString "'" else x


noncomputable def normStep (acc : List Str) (c : Str) : List Str := if c = Str.ofString "" ∨ c = Str.ofString "." then acc else if c = Str.ofString ".." then acc.dropLast else acc ++ [c]
noncomputable def normS (l : List Str) : List Str := l.foldl normStep []
theorem normS_snoc (l : List Str) (c : Str) : normS (l ++ [c]) = normStep (normS l) c := by simp [normS]
theorem normStep_len (acc : List Str) (c : Str) : (normStep acc c).length ≤ acc.length + 1 := by
  unfold normStep
  split
  · (first | exact (ch1 1 0 1 0 z (Eq.refl true)) | exact (ch0 0 1 (Eq.refl true)) | exact (lin1 3 [_, _, _] 0 (.a (.v 0) (.v 1)) (.a (.v 2) (.v 0)) 1 (.v 1) (.v 2) ih rfl (Eq.refl true)) | exact (ch2 0 1 0 200 1 1000 (Nat.le_of_eq xl) hj (Eq.refl true)) | exact (Nat.ne_of_gt (lin1 2 [_, _] 0 (.a (.k 0) (.k 1)) (.v 0) 1 (.a (.v 1) (.k 1)) (.v 0) (Nat.le_of_eq xl.symm) rfl (Eq.refl true))) | exact (ch1 0 20 1 100 hl (Eq.refl true)) | omega)
  · split
    · rw [List.length_dropLast]; (first | exact (lin1 2 [_, _] 0 (.v 0) (.a (.v 1) (.k 1)) 1 (.v 0) (.v 1) (Nat.sub_le _ _) rfl (Eq.refl true)) | omega)
    · rw [List.length_append, List.length_singleton]; (first | exact (ch0 1 1 (Eq.refl true)) | omega)
theorem foldN_len : ∀ (l : List Str) (acc : List Str), (l.foldl normStep acc).length ≤ acc.length + l.length
  | [], _ => Nat.le_refl _
  | c :: l, acc => by
    have := foldN_len l (normStep acc c)
    have := normStep_len acc c
    rw [List.foldl_cons, List.length_cons]; (lia)
theorem normS_len (l : List Str) : (normS l).length ≤ l.length := by
  have := foldN_len l []
  simpa [normS] using this
theorem normS_mem_aux : ∀ (l acc : List Str) (y : Str), y ∈ l.foldl normStep acc → y ∈ acc ∨ y ∈ l
  | [], acc, y, h => .inl h
  | c :: l, acc, y, h => by
    rw [List.foldl_cons] at h
    rcases normS_mem_aux l _ y h with h | h
    · unfold normStep at h
      split at h
      · exact .inl h
      · split at h
        · exact .inl ((List.dropLast_sublist _).subset h)
        · rcases List.mem_append.mp h with h | h
          · exact .inl h
          · exact .inr (List.mem_cons.mpr (.inl (List.mem_singleton.mp h)))
    · exact .inr (.tail _ h)
theorem normS_mem (l : List Str) (y : Str) (h : y ∈ normS l) : y ∈ l := by
  rcases normS_mem_aux l [] y h with h | h
  · cases h
  · exact h
theorem sum_len_le (l : List Str) (h : ∀ y ∈ l, y.length ≤ 1000) : (l.map (·.length)).sum ≤ 1000 * l.length := Nat.mul_comm l.length 1000 ▸ StrLaws.sumLen_le l h
theorem wt_of {l : List Str} {B m : Nat} (h : ∀ y ∈ l, y.length ≤ B) (hn : l.length ≤ m) (e : Nat.ble (m * B + m) 1048576 = true) : (l.map (·.length)).sum + l.length ≤ 1048576 :=
  Nat.le_trans (Nat.add_le_add (Nat.le_trans (StrLaws.sumLen_le l h) (Nat.mul_le_mul_right B hn)) hn) (Nat.le_of_ble_eq_true e)
theorem join_cap {sep : Str} {l : List Str} {B m N : Nat} (hs : sep.length = 1) (h : ∀ y ∈ l, y.length ≤ B) (hn : l.length ≤ m) (e : Nat.ble (m * B + m) N = true) : (Txt.join sep l).length ≤ N := by
  rw [eq_of_beq (PyProof.Rows.join_plain_closes sep l)]
  refine Nat.le_trans (StrLaws.join_length_le sep l) (Nat.le_trans ?_ (Nat.le_of_ble_eq_true e))
  rw [hs, Nat.mul_one]
  exact Nat.add_le_add (Nat.le_trans (StrLaws.sumLen_le l h) (Nat.mul_le_mul_right B hn)) hn
theorem len_slash : (Str.ofString "/").length = 1 := by decide +kernel

noncomputable def ltB : List Str → List Str → Bool
  | [], ys => decide (0 < ys.length)
  | _ :: _, [] => false
  | x :: xs, y :: ys => if x = y then ltB xs ys else decide (x.cps.toList < y.cps.toList)
noncomputable def gtB : List Str → List Str → Bool
  | [], _ => false
  | _ :: _, [] => true
  | x :: xs, y :: ys => if x = y then gtB xs ys else decide (y.cps.toList < x.cps.toList)

noncomputable def cpre : List Str → List Str → List Str
  | x :: xs, y :: ys => if x = y then x :: cpre xs ys else []
  | _, _ => []
theorem cpre_comm : ∀ u v, cpre u v = cpre v u
  | [], [] => rfl
  | [], _ :: _ => rfl
  | _ :: _, [] => rfl
  | x :: u, y :: v => by
    by_cases h : x = y
    · subst h; simp [cpre, cpre_comm u v]
    · simp [cpre, h, Ne.symm h]
theorem cpre_self : ∀ u, cpre u u = u
  | [] => rfl
  | x :: u => by simp [cpre, cpre_self u]
theorem cpre_len : ∀ u v, (cpre u v).length ≤ u.length
  | [], _ => by simp [cpre]
  | _ :: _, [] => by simp [cpre]
  | x :: u, y :: v => by
    have := cpre_len u v
    unfold cpre; split <;> simp <;> (first | exact (ch1 0 0 0 0 this (Eq.refl true)) | omega)
theorem cpre_at : ∀ (u v : List Str) (i : Nat), u.take i = v.take i → (∀ x y, u[i]? = some x → v[i]? = some y → x ≠ y) → (i < u.length → i < v.length) → cpre u v = u.take i
  | [], v, i, _, _, _ => by simp [cpre]
  | x :: u, [], i, h1, _, h3 => by
    cases i with
    | zero => exact absurd (h3 (by simp)) (by simp)
    | succ i => simp at h1
  | x :: u, y :: v, 0, _, h2, _ => by
    have := h2 x y rfl rfl
    simp [cpre, this]
  | x :: u, y :: v, i + 1, h1, h2, h3 => by
    simp only [List.take_succ_cons, List.cons.injEq] at h1
    obtain ⟨rfl, h1⟩ := h1
    simp only [cpre, if_true, List.take_succ_cons]
    rw [cpre_at u v i h1 (fun a b e1 e2 => h2 a b e1 e2) (fun z => by have := h3 (by simpa using z); simpa using this)]
theorem ltB_cons (x y : Str) (u v : List Str) : ltB (x :: u) (y :: v) = if x = y then ltB u v else decide (x.cps.toList < y.cps.toList) := rfl
theorem gtB_cons (x y : Str) (u v : List Str) : gtB (x :: u) (y :: v) = if x = y then gtB u v else decide (y.cps.toList < x.cps.toList) := rfl
theorem lt_ok : ∀ (u v : List Str), ltB u v = true → ∀ i, u.take i = v.take i → i < u.length → i < v.length
  | [], _, _, _, _, h => by simp at h
  | _ :: _, [], h, _, _, _ => (Bool.false_ne_true h).elim
  | x :: u, y :: v, h, 0, _, _ => by simp
  | x :: u, y :: v, h, i + 1, h1, h2 => by
    simp only [List.take_succ_cons, List.cons.injEq] at h1
    obtain ⟨rfl, h1⟩ := h1
    rw [ltB_cons, if_pos rfl] at h
    have := lt_ok u v h i h1 (by simpa using h2)
    simpa using this
theorem gt_ok : ∀ (v u : List Str), gtB v u = true → ∀ i, u.take i = v.take i → i < u.length → i < v.length
  | [], _, h, _, _, _ => (Bool.false_ne_true h).elim
  | _ :: _, [], _, _, _, h => by simp at h
  | y :: v, x :: u, h, 0, _, _ => by simp
  | y :: v, x :: u, h, i + 1, h1, h2 => by
    simp only [List.take_succ_cons, List.cons.injEq] at h1
    obtain ⟨rfl, h1⟩ := h1
    rw [gtB_cons, if_pos rfl] at h
    have := gt_ok v u h i h1 (by simpa using h2)
    simpa using this
theorem lt_gt : ∀ (u v : List Str), ltB u v = true → gtB u v = false
  | [], _, _ => rfl
  | _ :: _, [], h => (Bool.false_ne_true h).elim
  | x :: u, y :: v, h => by
    by_cases e : x = y
    · rw [ltB_cons, if_pos e] at h; rw [gtB_cons, if_pos e]; exact lt_gt u v h
    · rw [ltB_cons, if_neg e] at h; rw [gtB_cons, if_neg e]
      exact decide_eq_false (List.lt_asymm (of_decide_eq_true h))
theorem str_ext {x y : Str} (h : x.cps.toList = y.cps.toList) : x = y := by
  obtain ⟨⟨x⟩⟩ := x; obtain ⟨⟨y⟩⟩ := y; simp at h; rw [h]
theorem neither : ∀ (u v : List Str), ltB u v = false → gtB u v = false → u = v
  | [], [], _, _ => rfl
  | [], _ :: _, h, _ => (Bool.false_ne_true h.symm).elim
  | _ :: _, [], _, h => (Bool.false_ne_true h.symm).elim
  | x :: u, y :: v, h1, h2 => by
    by_cases e : x = y
    · rw [ltB_cons, if_pos e] at h1; rw [gtB_cons, if_pos e] at h2; rw [e, neither u v h1 h2]
    · rw [ltB_cons, if_neg e] at h1; rw [gtB_cons, if_neg e] at h2
      exact absurd (str_ext (List.le_antisymm (List.not_lt.mp (of_decide_eq_false h2)) (List.not_lt.mp (of_decide_eq_false h1)))) e

structure PathOk (x : Str) (cs : List Str) : Prop where
  hx : x.length < 1000
  hne : x.length ≠ 0
  hp1 : ¬ ((Txt.slice x none (some 1) != Str.ofString "/") = true)
  hp2 : (Txt.slice x (some 1) (some 2) != Str.ofString "/") = true
  hcs : Txt.split (Txt.slice x (some 1) none) (Str.ofString "/") = cs
  hlen : cs.length < 100
  hcl : ∀ c ∈ cs, c.length ≤ 1000
  hdd : ∀ i, cs[i]? = some (Str.ofString "..") → normS (cs.take i) = [Str.ofString "b"]
  hsw : Txt.startswith x (Str.ofString "/") = true
  hst : Txt.lstripChars (Str.ofString "/" ++ Txt.join (Str.ofString "/") (normS cs)) (Str.ofString "/") = Txt.join (Str.ofString "/") (normS cs)
  hsp : normS cs ≠ [] → Txt.split (Txt.join (Str.ofString "/") (normS cs)) (Str.ofString "/") = normS cs
  hz : (Txt.join (Str.ofString "/") (normS cs)).length = 0 ↔ normS cs = []


noncomputable def relF (ds cs : List Str) : Str := if List.replicate (ds.length - (cpre ds cs).length) (Str.ofString "..") ++ cs.drop (cpre ds cs).length = [] then Str.ofString "." else Txt.join (Str.ofString "/") (List.replicate (ds.length - (cpre ds cs).length) (Str.ofString "..") ++ cs.drop (cpre ds cs).length)
end TP0
section TP1
open PySem PySem.W
set_option maxHeartbeats 4000000
noncomputable def jl (c : Nat) : List (List Nat) → List Nat
  | [] => []
  | [a] => a
  | a :: b :: r => a ++ c :: jl c (b :: r)
noncomputable abbrev S (x : Str) : List Nat := x.cps.toList
theorem slash_is : Str.ofString "/" = ⟨#[47]⟩ := by decide +kernel
theorem join_jl (c : Nat) : ∀ l : List Str, S (Str.join ⟨#[c]⟩ l) = jl c (l.map S)
  | [] => rfl
  | [a] => rfl
  | a :: b :: r => by
    have ih := join_jl c (b :: r)
    show (a ++ ⟨#[c]⟩ ++ Str.join ⟨#[c]⟩ (b :: r)).cps.toList = _
    simp only [Str.cps_append, Array.toList_append]
    show S a ++ [c] ++ S (Str.join ⟨#[c]⟩ (b :: r)) = S a ++ c :: jl c ((b :: r).map S)
    rw [ih]; simp
theorem tjoin (l : List Str) : S (Txt.join (Str.ofString "/") l) = jl 47 (l.map S) := by
  rw [eq_of_beq (PyProof.Rows.join_plain_closes (Str.ofString "/") l), slash_is, join_jl]
theorem tjoin_sp (l : List Str) : S (Txt.join (Str.ofString " ") l) = jl 32 (l.map S) := by
  rw [eq_of_beq (PyProof.Rows.join_plain_closes (Str.ofString " ") l), (by decide +kernel : Str.ofString " " = ⟨#[32]⟩), join_jl]
theorem S_inj {x y : Str} (h : S x = S y) : x = y := str_ext h
theorem S_map_inj : ∀ {a b : List Str}, a.map S = b.map S → a = b
  | [], [], _ => rfl
  | [], _ :: _, h => by simp at h
  | _ :: _, [], h => by simp at h
  | x :: a, y :: b, h => by
    rw [List.map_cons, List.map_cons, List.cons.injEq] at h
    rw [S_inj h.1, S_map_inj h.2]
theorem S_append (x y : Str) : S (x ++ y) = S x ++ S y := by
  show (x ++ y).cps.toList = _
  simp only [Str.cps_append, Array.toList_append]
theorem S_len (x : Str) : x.length = (S x).length := by simp [Str.length]

noncomputable def tl (c : Nat) (r : List (List Nat)) : List Nat := match r with | [] => [] | b :: r => c :: jl c (b :: r)
theorem jl_cons (c : Nat) (a : List Nat) (r : List (List Nat)) : jl c (a :: r) = a ++ tl c r := by
  cases r with
  | nil => exact (List.append_nil a).symm
  | cons b r => rfl
theorem cut_at {c : Nat} : ∀ {a b : List Nat} {t u : List Nat}, c ∉ a → c ∉ b → (t = [] ∨ ∃ t', t = c :: t') → (u = [] ∨ ∃ u', u = c :: u') → a ++ t = b ++ u → a = b ∧ t = u
  | [], [], t, u, _, _, _, _, h => ⟨rfl, h⟩
  | [], y :: b, t, u, _, hb, ht, _, h => by
    rcases ht with rfl | ⟨t', rfl⟩
    · simp at h
    · simp at h; exact absurd (h.1 ▸ List.mem_cons_self) hb
  | x :: a, [], t, u, ha, _, _, hu, h => by
    rcases hu with rfl | ⟨u', rfl⟩
    · simp at h
    · simp at h; exact absurd (h.1 ▸ List.mem_cons_self) ha
  | x :: a, y :: b, t, u, ha, hb, ht, hu, h => by
    simp only [List.cons_append, List.cons.injEq] at h
    obtain ⟨e1, e2⟩ := cut_at (fun z => ha (.tail _ z)) (fun z => hb (.tail _ z)) ht hu h.2
    exact ⟨by rw [h.1, e1], e2⟩
theorem tl_or (c : Nat) (r : List (List Nat)) : tl c r = [] ∨ ∃ t', tl c r = c :: t' := by
  cases r with
  | nil => exact .inl rfl
  | cons b r => exact .inr ⟨_, rfl⟩
theorem jl_inj {c : Nat} : ∀ {a b : List (List Nat)}, a ≠ [] → b ≠ [] → (∀ p ∈ a, c ∉ p) → (∀ p ∈ b, c ∉ p) → jl c a = jl c b → a = b
  | [], _, h, _, _, _, _ => absurd rfl h
  | _, [], _, h, _, _, _ => absurd rfl h
  | x :: a, y :: b, _, _, ha, hb, h => by
    rw [jl_cons, jl_cons] at h
    obtain ⟨rfl, e2⟩ := cut_at (ha x (.head _)) (hb y (.head _)) (tl_or c a) (tl_or c b) h
    cases a with
    | nil => cases b with
      | nil => rfl
      | cons y b => exact (List.cons_ne_nil _ _ e2.symm).elim
    | cons x' a => cases b with
      | nil => exact (List.cons_ne_nil _ _ e2).elim
      | cons y' b =>
        rw [jl_inj (List.cons_ne_nil _ _) (List.cons_ne_nil _ _) (fun p hp => ha p (.tail _ hp)) (fun p hp => hb p (.tail _ hp)) (List.cons.inj e2).2]
theorem jl_prefix {c : Nat} : ∀ {b a : List (List Nat)}, b ≠ [] → a ≠ [] → (∀ p ∈ b, c ∉ p) → (∀ p ∈ a, c ∉ p) → ((jl c b ++ [c]) <+: jl c a ↔ b <+: a ∧ b.length < a.length)
  | [], _, h, _, _, _ => absurd rfl h
  | _, [], _, h, _, _ => absurd rfl h
  | x :: b, y :: a, _, _, hb, ha => by
    have hx := hb x (.head _)
    have hy := ha y (.head _)
    cases b with
    | nil =>
      constructor
      · rintro ⟨r, h⟩
        rw [jl_cons c y a] at h
        have h' : x ++ (c :: r) = y ++ tl c a := by rw [List.append_assoc] at h; exact h
        refine hideL ?_; intro gg1
        obtain ⟨rfl, e2⟩ := cut_at hx hy (.inr ⟨_, rfl⟩) (tl_or c a) h'
        k_unfold
        cases a with
        | nil => exact (List.cons_ne_nil _ _ e2).elim
        | cons y' a => exact ⟨⟨y' :: a, rfl⟩, by simp⟩
      · rintro ⟨⟨r, h⟩, h2⟩
        simp only [List.cons_append, List.nil_append, List.cons.injEq] at h
        obtain ⟨rfl, rfl⟩ := h
        cases r with
        | nil => simp at h2
        | cons y' a => exact ⟨jl c (y' :: a), by rw [List.append_assoc]; rfl⟩
    | cons x' b =>
      have ih := fun (a : List (List Nat)) (hn : a ≠ []) (h : ∀ p ∈ a, c ∉ p) => jl_prefix (c := c) (b := x' :: b) (a := a) (by simp) hn (fun p hp => hb p (.tail _ hp)) h
      constructor
      · rintro ⟨r, h⟩
        rw [jl_cons c y a] at h
        have h' : x ++ (c :: (jl c (x' :: b) ++ c :: r)) = y ++ tl c a := by
          rw [List.append_assoc, show jl c (x :: x' :: b) = x ++ (c :: jl c (x' :: b)) from rfl, List.append_assoc] at h; exact h
        refine hideL ?_; intro gg2
        obtain ⟨rfl, e2⟩ := cut_at hx hy (.inr ⟨_, rfl⟩) (tl_or c a) h'
        k_unfold
        cases a with
        | nil => exact (List.cons_ne_nil _ _ e2).elim
        | cons y' a =>
          have e2 := (List.cons.inj e2).2
          refine hideL ?_; intro gg3
          obtain ⟨⟨r2, e3⟩, e4⟩ := (ih (y' :: a) (by simp) (fun p hp => ha p (.tail _ hp))).mp ⟨r, by simpa using e2⟩
          k_unfold
          exact ⟨⟨r2, by rw [← e3]; rfl⟩, by simp only [List.length_cons] at e4 ⊢; (first | exact (ch1 2 1 3 2 e4 (Eq.refl true)) | omega)⟩
      · rintro ⟨⟨r, h⟩, h2⟩
        have h : x = y ∧ x' :: b ++ r = a := by simpa using h
        obtain ⟨rfl, rfl⟩ := h
        obtain ⟨r2, e⟩ := (ih (x' :: b ++ r) (by simp) (fun p hp => ha p (.tail _ hp))).mpr ⟨⟨r, rfl⟩, by simp only [List.length_cons] at h2 ⊢; (first | exact (ch1 3 1 2 0 h2 (Eq.refl true)) | omega)⟩
        refine ⟨r2, ?_⟩
        show x ++ c :: jl c (x' :: b) ++ [c] ++ r2 = x ++ c :: jl c (x' :: (b ++ r))
        have e' : jl c (x' :: b) ++ [c] ++ r2 = jl c (x' :: (b ++ r)) := e
        rw [← e']; simp

theorem startswith_S (x y : Str) : Txt.startswith x y = true ↔ S y <+: S x := by
  unfold Txt.startswith
  rw [Bool.and_eq_true, decide_eq_true_eq, StrLaws.subAt_eq, List.drop_zero, beq_iff_eq, S_len, S_len]
  constructor
  · rintro ⟨_, h⟩
    exact List.prefix_iff_eq_take.mpr h.symm
  · intro h
    exact ⟨by have := h.length_le; (first | exact (lin1 2 [_, _] 0 (.a (.k 0) (.v 0)) (.v 1) 1 (.v 0) (.v 1) this rfl (Eq.refl true)) | omega), (List.prefix_iff_eq_take.mp h).symm⟩

theorem split_join (l : List Str) (hn : l ≠ []) (hf : ∀ p ∈ l, 47 ∉ S p) : Txt.split (Txt.join (Str.ofString "/") l) (Str.ofString "/") = l := by
  refine S_map_inj (jl_inj (c := 47) ?_ ?_ ?_ ?_ ?_)
  · intro h
    obtain ⟨p, r, e⟩ : ∃ p r, Txt.split (Txt.join (Str.ofString "/") l) (Str.ofString "/") = p :: r := by
      unfold Txt.split
      split
      · exact ⟨_, _, rfl⟩
      · split
        · exact ⟨_, _, rfl⟩
        · rw [StrLaws.partsBetween_eq]; exact StrLaws.partsFrom_ne _ _ _ _
    rw [e] at h; cases h
  · intro h; exact hn (List.map_eq_nil_iff.mp h)
  · intro p hp
    refine hideL ?_; intro gg4
    obtain ⟨q, hq, rfl⟩ := List.mem_map.mp hp
    k_unfold
    rw [slash_is] at hq
    exact StrLaws.split_free _ _ q hq
  · intro p hp
    refine hideL ?_; intro gg5
    obtain ⟨q, hq, rfl⟩ := List.mem_map.mp hp
    k_unfold
    exact hf q hq
  · rw [← join_jl, ← slash_is, StrLaws.join_split, tjoin]
end TP1
section TP2
open PySem PySem.W
set_option maxHeartbeats 4000000
theorem slice_is (x : Str) (l u : Option Int) : Txt.slice x l u = StrLaws.sliceText x l u := rfl
theorem slice_to (x : Str) (n : Nat) (h : n ≤ x.length) : S (Txt.slice x none (some (n : Int))) = (S x).take n := by
  rw [slice_is, StrLaws.sliceText_to ⟨by (lia), by rw [S_len] at h; exact Int.ofNat_le.mpr h⟩]
  simp
theorem slice_from (x : Str) (n : Nat) (h : n ≤ x.length) : S (Txt.slice x (some (n : Int)) none) = (S x).drop n := by
  rw [slice_is, StrLaws.sliceText_from ⟨by omega, by rw [S_len] at h; exact Int.ofNat_le.mpr h⟩]
  show List.take _ (List.drop _ _) = _
  rw [Int.toNat_natCast]
  refine List.take_of_length_le ?_
  rw [List.length_drop]
  simp
theorem slice_mid (x : Str) (a b : Nat) (hab : a ≤ b) (h : b ≤ x.length) : S (Txt.slice x (some (a : Int)) (some (b : Int))) = ((S x).drop a).take (b - a) := by
  rw [slice_is, StrLaws.sliceText_nat x hab h]
theorem fresh_slice (x : Str) : Txt.slice (x ++ Str.ofString "/") none (some (-1)) = x := by
  have hl : (x ++ Str.ofString "/").length = x.length + 1 := by rw [S_len, S_append, S_len, List.length_append]; rfl
  refine S_inj ?_
  rw [slice_is, StrLaws.sliceText_to_neg (by (lia)) (by (lia)), hl]
  show List.take _ (List.drop 0 _) = _
  rw [List.drop_zero, show ((-1 : Int) + ((x.length + 1 : Nat) : Int) - 0).toNat = x.length by (lia)]
  show List.take _ (S (x ++ Str.ofString "/")) = _
  rw [S_append, S_len, List.take_left']
  rfl

theorem S_slash : S (Str.ofString "/") = [47] := by decide +kernel
theorem lstrip_slash (J : Str) (h : ∀ c r, S J = c :: r → c ≠ 47) : Txt.lstripChars (Str.ofString "/" ++ J) (Str.ofString "/") = J := by
  have hc : ∀ k, (Str.ofString "/").cps.contains k = (k == 47) := by
    intro k
    rw [slash_is]
    simp [eq_comm]
    rfl
  have htw : (List.takeWhile (Str.ofString "/").cps.contains (S (Str.ofString "/" ++ J))) = [47] := by
    rw [S_append, S_slash, List.singleton_append, List.takeWhile_cons, hc]
    simp only [beq_self_eq_true, if_true]
    cases e : S J with
    | nil => rfl
    | cons c r =>
      rw [List.takeWhile_cons, hc]
      have := h c r e
      simp [this]
  unfold Txt.lstripChars Txt.stripBy
  have hlo : stripLo (Str.ofString "/").cps.contains true (Str.ofString "/" ++ J) = 1 := by
    unfold stripLo
    rw [if_pos rfl]
    exact congrArg List.length htw
  rw [if_neg (by unfold stripSame; rw [hlo]; simp)]
  unfold PySem.stripped
  rw [hlo]
  refine S_inj ?_
  show S (Builtin.Str.strSub _ _ _) = _
  rw [show S (Builtin.Str.strSub (Str.ofString "/" ++ J) 1 (stripHi (Str.ofString "/").cps.contains false (Str.ofString "/" ++ J) 1)) = _ from StrLaws.strSub_toList _ _ _]
  show List.take _ (List.drop 1 (S (Str.ofString "/" ++ J))) = _
  have hh : stripHi (Str.ofString "/").cps.contains false (Str.ofString "/" ++ J) 1 = (Str.ofString "/" ++ J).length := rfl
  rw [hh, S_len, S_append, S_slash, List.singleton_append, List.drop_one, List.tail_cons]
  exact List.take_of_length_le (by simp)

theorem jl_first (l : List (List Nat)) (hn : ∀ p ∈ l, p ≠ []) (hf : ∀ p ∈ l, 47 ∉ p) : ∀ c r, jl 47 l = c :: r → c ≠ 47 := by
  intro c r h
  cases l with
  | nil => cases h
  | cons a l =>
    rw [jl_cons] at h
    cases a with
    | nil => exact absurd rfl (hn [] (.head _))
    | cons x a =>
      simp only [List.cons_append, List.cons.injEq] at h
      rintro rfl
      exact hf _ (.head _) (h.1 ▸ List.mem_cons_self)
theorem S_ne {c : Str} (h : c.length ≠ 0) : S c ≠ [] := by rw [S_len] at h; exact fun e => h (by rw [e]; rfl)

theorem join_small (l : List Str) (h1 : ∀ c ∈ l, c.length ≤ 9) (h2 : l.length ≤ 20) : (Txt.join (Str.ofString "/") l).length ≤ 200 := join_cap len_slash h1 h2 rfl

theorem pathOk_of {cs : List Str} (hn : cs ≠ []) (hf : ∀ c ∈ cs, 47 ∉ S c) (hs : ∀ c ∈ cs, c.length ≤ 9) (hl : cs.length ≤ 20)
    (h1 : cs = [Str.ofString ""] ∨ ∃ a r, cs = a :: r ∧ a.length ≠ 0) (hdd : ∀ i, cs[i]? = some (Str.ofString "..") → normS (cs.take i) = [Str.ofString "b"]) (hnn : ∀ c ∈ normS cs, c.length ≠ 0) :
    PathOk (Str.ofString "/" ++ Txt.join (Str.ofString "/") cs) cs := by
  have hj := join_small cs hs hl
  have xl : (Str.ofString "/" ++ Txt.join (Str.ofString "/") cs).length = (Txt.join (Str.ofString "/") cs).length + 1 := by
    rw [S_len, S_append, S_len, List.length_append, S_slash]; simp; (first | exact (Nat.le_antisymm (lin0 1 [_] (.a (.k 1) (.v 0)) (.a (.v 0) (.k 1)) rfl (Eq.refl true)) (lin0 1 [_] (.a (.v 0) (.k 1)) (.a (.k 1) (.v 0)) rfl (Eq.refl true))) | omega)
  have hS : S (Str.ofString "/" ++ Txt.join (Str.ofString "/") cs) = 47 :: jl 47 (cs.map S) := by
    rw [S_append, S_slash, tjoin]; rfl
  have nf : ∀ c ∈ normS cs, 47 ∉ S c := fun c hc => hf c (normS_mem cs c hc)
  have hfr : Txt.slice (Str.ofString "/" ++ Txt.join (Str.ofString "/") cs) (some 1) none = Txt.join (Str.ofString "/") cs := by
    refine S_inj ?_
    have := slice_from (Str.ofString "/" ++ Txt.join (Str.ofString "/") cs) 1 (by (first | exact (lin1 2 [_, _] 0 (.k 1) (.v 0) 1 (.a (.v 1) (.k 1)) (.v 0) (Nat.le_of_eq xl.symm) rfl (Eq.refl true)) | omega))
    rw [show ((1 : Nat) : Int) = 1 from rfl] at this
    rw [this, hS, tjoin]; rfl
  constructor
  · (first | exact (ch1 1 0 1 0 z (Eq.refl true)) | exact (ch0 0 1 (Eq.refl true)) | exact (lin1 3 [_, _, _] 0 (.a (.v 0) (.v 1)) (.a (.v 2) (.v 0)) 1 (.v 1) (.v 2) ih rfl (Eq.refl true)) | exact (ch2 0 1 0 200 1 1000 (Nat.le_of_eq xl) hj (Eq.refl true)) | exact (Nat.ne_of_gt (lin1 2 [_, _] 0 (.a (.k 0) (.k 1)) (.v 0) 1 (.a (.v 1) (.k 1)) (.v 0) (Nat.le_of_eq xl.symm) rfl (Eq.refl true))) | exact (ch1 0 20 1 100 hl (Eq.refl true)) | omega)
  · (first | exact (ch1 1 0 1 0 z (Eq.refl true)) | exact (ch0 0 1 (Eq.refl true)) | exact (lin1 3 [_, _, _] 0 (.a (.v 0) (.v 1)) (.a (.v 2) (.v 0)) 1 (.v 1) (.v 2) ih rfl (Eq.refl true)) | exact (ch2 0 1 0 200 1 1000 (Nat.le_of_eq xl) hj (Eq.refl true)) | exact (Nat.ne_of_gt (lin1 2 [_, _] 0 (.a (.k 0) (.k 1)) (.v 0) 1 (.a (.v 1) (.k 1)) (.v 0) (Nat.le_of_eq xl.symm) rfl (Eq.refl true))) | exact (ch1 0 20 1 100 hl (Eq.refl true)) | omega)
  · have e : Txt.slice (Str.ofString "/" ++ Txt.join (Str.ofString "/") cs) none (some 1) = Str.ofString "/" := by
      refine S_inj ?_
      have := slice_to (Str.ofString "/" ++ Txt.join (Str.ofString "/") cs) 1 (by (first | exact (lin1 2 [_, _] 0 (.k 1) (.v 0) 1 (.a (.v 1) (.k 1)) (.v 0) (Nat.le_of_eq xl.symm) rfl (Eq.refl true)) | omega))
      rw [show ((1 : Nat) : Int) = 1 from rfl] at this
      rw [this, hS, S_slash]; rfl
    rw [e]; simp
  · rcases h1 with rfl | ⟨a, r, rfl, ha⟩
    · decide +kernel
    · have h0 : 1 ≤ (Txt.join (Str.ofString "/") (a :: r)).length := by
        rw [S_len, tjoin, List.map_cons, jl_cons, List.length_append, ← S_len]; (first | exact (lin1 2 [_, _] 0 (.k 1) (.a (.v 0) (.v 1)) 1 (.k 1) (.v 0) (Nat.pos_of_ne_zero ha) rfl (Eq.refl true)) | omega)
      have e := slice_mid (Str.ofString "/" ++ Txt.join (Str.ofString "/") (a :: r)) 1 2 (by (first | exact (ch0 1 2 (Eq.refl true)) | omega)) (by (first | exact (ch2 1 0 1 0 2 0 h0 (Nat.le_of_eq xl.symm) (Eq.refl true)) | omega))
      rw [show ((1 : Nat) : Int) = 1 from rfl, show ((2 : Nat) : Int) = 2 from rfl, hS] at e
      have ne : Txt.slice (Str.ofString "/" ++ Txt.join (Str.ofString "/") (a :: r)) (some 1) (some 2) ≠ Str.ofString "/" := by
        intro z
        rw [z, S_slash] at e
        cases q : S a with
        | nil => exact S_ne ha q
        | cons k r2 =>
          rw [List.map_cons, jl_cons, q] at e
          simp at e
          exact hf a (.head _) (by rw [q, ← e]; exact .head _)
      simpa using ne
  · rw [hfr]; exact split_join cs hn hf
  · (first | exact (ch1 1 0 1 0 z (Eq.refl true)) | exact (ch0 0 1 (Eq.refl true)) | exact (lin1 3 [_, _, _] 0 (.a (.v 0) (.v 1)) (.a (.v 2) (.v 0)) 1 (.v 1) (.v 2) ih rfl (Eq.refl true)) | exact (ch2 0 1 0 200 1 1000 (Nat.le_of_eq xl) hj (Eq.refl true)) | exact (Nat.ne_of_gt (lin1 2 [_, _] 0 (.a (.k 0) (.k 1)) (.v 0) 1 (.a (.v 1) (.k 1)) (.v 0) (Nat.le_of_eq xl.symm) rfl (Eq.refl true))) | exact (ch1 0 20 1 100 hl (Eq.refl true)) | omega)
  · intro c hc; have := hs c hc; (first | exact (ch1 0 9 0 1000 this (Eq.refl true)) | omega)
  · exact hdd
  · rw [startswith_S, hS, S_slash]; exact ⟨_, rfl⟩
  · refine lstrip_slash _ fun c r h => ?_
    rw [tjoin] at h
    refine jl_first _ ?_ ?_ c r h
    · intro p hp
      refine hideL ?_; intro gg1
      obtain ⟨q, hq, rfl⟩ := List.mem_map.mp hp
      k_unfold
      exact S_ne (hnn q hq)
    · intro p hp
      refine hideL ?_; intro gg2
      obtain ⟨q, hq, rfl⟩ := List.mem_map.mp hp
      k_unfold
      exact nf q hq
  · intro h; exact split_join _ h nf
  · constructor
    · intro h
      cases e : normS cs with
      | nil => rfl
      | cons a r =>
        rw [e] at h
        rw [S_len, tjoin, List.map_cons, jl_cons, List.length_append, ← S_len] at h
        have := hnn a (by rw [e]; exact .head _)
        (first | exact (ch3 0 0 1 0 1 0 0 0 hC hCD z (Eq.refl true)) | exact (ch2 1 0 0 0 1 0 hlt (Nat.le_of_eq this.symm) (Eq.refl true)) | exact (ch3 821 0 0 0 1 0 2 0 z0 hC hCD (Eq.refl true)) | exact (And.intro (lin0 1 [_] (.k 5) (.a (.v 0) (.a (.a (.a (.a (.a (.k 0) (.k 1)) (.k 1)) (.k 1)) (.k 1)) (.k 1))) rfl (Eq.refl true)) (lin1 1 [_] 0 (.a (.v 0) (.a (.a (.a (.a (.a (.k 0) (.k 1)) (.k 1)) (.k 1)) (.k 1)) (.k 1))) (.k 11) 1 (.v 0) (.k 6) (Nat.min_le_left _ _) rfl (Eq.refl true))) | exact (lin1 1 [_] 0 (.a (.a (.a (.k 0) (.k 1)) (.v 0)) (.k 1)) (.k 1000) 1 (.v 0) (.k 200) this rfl (Eq.refl true)) | exact (Nat.le_antisymm (lin1 2 [_, _] 0 (.v 0) (.v 1) 1 (.v 0) (.v 1) hc3 rfl (Eq.refl true)) (lin1 2 [_, _] 0 (.v 0) (.v 1) 1 (.v 0) (.v 1) this rfl (Eq.refl true))) | exact (lin2 2 [_, _] 0 (.a (.a (.v 0) (.v 1)) (.k 1)) (.k 900) 1 (.v 1) (.k 200) 1 (.v 0) (.k 1) h1 (Nat.le_of_eq this) rfl (Eq.refl true)) | exact (ch4 0 0 0 0 1 11 1000 0 0 0 (Nat.le_of_eq h1) h2 zi h3 (Eq.refl true)) | exact (ch4 0 0 0 0 1 11 1000 0 0 0 (Nat.le_of_eq h1) h2 zi z1000 (Eq.refl true)) | omega)
    · intro h; rw [h]; rfl

structure Good (c : Str) : Prop where
  ne : c.length ≠ 0
  sm : c.length ≤ 9
  fr : 47 ∉ S c
  d1 : c ≠ Str.ofString "."
  d2 : c ≠ Str.ofString ".."
theorem good_step {acc : List Str} {c : Str} (h : Good c) : normStep acc c = acc ++ [c] := by
  unfold normStep
  rw [if_neg (by rintro (e | e); exact h.ne (by rw [e]; rfl); exact h.d1 e), if_neg h.d2]
theorem good_fold : ∀ (l acc : List Str), (∀ c ∈ l, Good c) → l.foldl normStep acc = acc ++ l
  | [], acc, _ => by simp
  | c :: l, acc, h => by
    rw [List.foldl_cons, good_step (h c (.head _)), good_fold l _ fun y hy => h y (.tail _ hy)]; simp
theorem normS_good {l : List Str} (h : ∀ c ∈ l, Good c) : normS l = l := by unfold normS; rw [good_fold l [] h]; rfl
noncomputable def orE (l : List Str) : List Str := if l = [] then [Str.ofString ""] else l
theorem orE_ne (l : List Str) : orE l ≠ [] := by unfold orE; split; simp; assumption
theorem orE_cases (l : List Str) : (l = [] ∧ orE l = [Str.ofString ""]) ∨ (l ≠ [] ∧ orE l = l) := by
  unfold orE; split
  · exact .inl ⟨by assumption, rfl⟩
  · exact .inr ⟨by assumption, rfl⟩
theorem S_e : S (Str.ofString "") = [] := by decide +kernel
theorem join_orE (l : List Str) : Txt.join (Str.ofString "/") (orE l) = Txt.join (Str.ofString "/") l := by
  rcases orE_cases l with ⟨rfl, e⟩ | ⟨_, e⟩
  · rw [e]; decide +kernel
  · rw [e]
theorem fold_orE (l acc : List Str) (h : ∀ c ∈ l, Good c) : (orE l).foldl normStep acc = acc ++ l := by
  rcases orE_cases l with ⟨rfl, e⟩ | ⟨_, e⟩
  · rw [e]
    show normStep acc (Str.ofString "") = _
    unfold normStep
    rw [if_pos (.inl rfl)]; simp
  · rw [e, good_fold l acc h]
theorem normS_orE {l : List Str} (h : ∀ c ∈ l, Good c) : normS (orE l) = l := by unfold normS; rw [fold_orE l [] h]; rfl
theorem mem_orE {l : List Str} {c : Str} (h : c ∈ orE l) : c = Str.ofString "" ∨ c ∈ l := by
  rcases orE_cases l with ⟨rfl, e⟩ | ⟨_, e⟩
  · rw [e] at h; exact .inl (List.mem_singleton.mp h)
  · rw [e] at h; exact .inr h
theorem good_b : Good (Str.ofString "b") := ⟨by decide +kernel, by decide +kernel, by decide +kernel, by decide +kernel, by decide +kernel⟩
theorem e_fr : 47 ∉ S (Str.ofString "") := by decide +kernel

theorem ok_plain {l : List Str} (h : ∀ c ∈ l, Good c) (hl : l.length ≤ 9) : PathOk (Str.ofString "/" ++ Txt.join (Str.ofString "/") l) (orE l) ∧ normS (orE l) = l := by
  refine ⟨?_, normS_orE h⟩
  rw [← join_orE]
  refine pathOk_of (orE_ne l) ?_ ?_ ?_ ?_ ?_ ?_
  · intro c hc; rcases mem_orE hc with rfl | hc; exact e_fr; exact (h c hc).fr
  · intro c hc; rcases mem_orE hc with rfl | hc; exact Nat.zero_le _; exact (h c hc).sm
  · rcases orE_cases l with ⟨rfl, e⟩ | ⟨_, e⟩ <;> rw [e]; exact (by decide : 1 ≤ 20); (first | exact (ch1 0 9 0 20 hl (Eq.refl true)) | omega)
  · rcases orE_cases l with ⟨rfl, e⟩ | ⟨hn, e⟩
    · exact .inl e
    · cases l with
      | nil => exact absurd rfl hn
      | cons a r => exact .inr ⟨a, r, e, (h a (.head _)).ne⟩
  · intro i hi
    rcases mem_orE (List.mem_of_getElem? hi) with e | hc
    · exact absurd e (by decide +kernel)
    · exact absurd rfl (h _ hc).d2
  · rw [normS_orE h]; exact fun c hc => (h c hc).ne
theorem b_step : normStep [Str.ofString "b"] (Str.ofString "..") = [] := by decide +kernel
theorem b_step0 : normStep [] (Str.ofString "b") = [Str.ofString "b"] := by decide +kernel
theorem ok_round {l : List Str} (h : ∀ c ∈ l, Good c) (hl : l.length ≤ 9) : PathOk (Str.ofString "/b/../" ++ Txt.join (Str.ofString "/") l) (Str.ofString "b" :: Str.ofString ".." :: orE l) ∧ normS (Str.ofString "b" :: Str.ofString ".." :: orE l) = l := by
  have hN : normS (Str.ofString "b" :: Str.ofString ".." :: orE l) = l := by
    unfold normS
    rw [List.foldl_cons, b_step0, List.foldl_cons, b_step, fold_orE l [] h]; rfl
  have hx : Str.ofString "/b/../" ++ Txt.join (Str.ofString "/") l = Str.ofString "/" ++ Txt.join (Str.ofString "/") (Str.ofString "b" :: Str.ofString ".." :: orE l) := by
    refine S_inj ?_
    have e : jl 47 ((orE l).map S) = jl 47 (l.map S) := by rw [← tjoin, ← tjoin, join_orE]
    have n : (orE l).map S ≠ [] := fun z => orE_ne l (List.map_eq_nil_iff.mp z)
    rw [S_append, S_append, tjoin, tjoin, ← e, List.map_cons, List.map_cons]
    cases q : (orE l).map S with
    | nil => exact absurd q n
    | cons a r =>
      show _ = [47] ++ (S (Str.ofString "b") ++ 47 :: (S (Str.ofString "..") ++ 47 :: jl 47 (a :: r)))
      rw [(by decide +kernel : S (Str.ofString "/b/../") = [47, 98, 47, 46, 46, 47]), (by decide +kernel : S (Str.ofString "b") = [98]), (by decide +kernel : S (Str.ofString "..") = [46, 46])]
      rfl
  refine ⟨?_, hN⟩
  rw [hx]
  refine pathOk_of (by simp) ?_ ?_ ?_ ?_ ?_ ?_
  · intro c hc
    rcases List.mem_cons.mp hc with rfl | hc
    · decide +kernel
    · rcases List.mem_cons.mp hc with rfl | hc
      · decide +kernel
      · rcases mem_orE hc with rfl | hc; exact e_fr; exact (h c hc).fr
  · intro c hc
    rcases List.mem_cons.mp hc with rfl | hc
    · decide +kernel
    · rcases List.mem_cons.mp hc with rfl | hc
      · decide +kernel
      · rcases mem_orE hc with rfl | hc; exact Nat.zero_le _; exact (h c hc).sm
  · rcases orE_cases l with ⟨rfl, e⟩ | ⟨_, e⟩ <;> rw [e]
    · exact (by decide : 3 ≤ 20)
    · simp only [List.length_cons]; (first | exact (ch1 0 9 2 20 hl (Eq.refl true)) | omega)
  · exact .inr ⟨_, _, rfl, by decide +kernel⟩
  · intro i hi
    match i with
    | 0 => exact absurd (Option.some.inj hi) (by decide +kernel)
    | 1 => rfl
    | i + 2 =>
      have hi' : (orE l)[i]? = some (Str.ofString "..") := hi
      rcases mem_orE (List.mem_of_getElem? hi') with e | hc
      · exact absurd e (by decide +kernel)
      · exact absurd rfl (h _ hc).d2
  · rw [hN]; exact fun c hc => (h c hc).ne
end TP2
section TP3
open PySem PySem.W
set_option maxHeartbeats 4000000
noncomputable def wd (l : List Str) : Str := l.foldl (fun acc c => acc ++ Str.ofString "/" ++ c) (Str.ofString "")
theorem wd_snoc (l : List Str) (c : Str) : wd (l ++ [c]) = wd l ++ Str.ofString "/" ++ c := by simp [wd]
theorem wd_aux (l : List Str) : ∀ acc : Str, S (l.foldl (fun acc c => acc ++ Str.ofString "/" ++ c) acc) = S acc ++ l.flatMap fun c => 47 :: S c := by
  induction l with
  | nil => intro acc; simp
  | cons c l ih => intro acc; rw [List.foldl_cons, ih, S_append, S_append, S_slash]; simp
theorem wd_S (l : List Str) : S (wd l) = l.flatMap fun c => 47 :: S c := by
  unfold wd; rw [wd_aux, S_e]; rfl
theorem wd_cons (a : Str) (l : List Str) : S (wd (a :: l)) = 47 :: jl 47 ((a :: l).map S) := by
  rw [wd_S]
  induction l generalizing a with
  | nil => simp [jl]
  | cons b l ih =>
    have := ih b
    rw [List.flatMap_cons, this]; simp [jl]
theorem wd_ne {l : List Str} (h : l ≠ []) : wd l ≠ Str.ofString "" := by
  cases l with
  | nil => exact absurd rfl h
  | cons a l => intro z; have := congrArg S z; rw [wd_cons, S_e] at this; cases this
theorem wd_tail {l : List Str} (h : l ≠ []) : Txt.slice (wd l) (some 1) none = Txt.join (Str.ofString "/") l := by
  cases l with
  | nil => exact absurd rfl h
  | cons a l =>
    refine S_inj ?_
    have hl : 1 ≤ (wd (a :: l)).length := by rw [S_len, wd_cons]; simp
    have := slice_from (wd (a :: l)) 1 hl
    rw [show ((1 : Nat) : Int) = 1 from rfl] at this
    rw [this, wd_cons, tjoin]; rfl
theorem wd_len {k : Nat} : ∀ l : List Str, (∀ c ∈ l, c.length ≤ k) → (wd l).length ≤ (k + 1) * l.length := by
  intro l h
  rw [S_len, wd_S]
  induction l with
  | nil => simp
  | cons a l ih =>
    have h1 := ih fun c hc => h c (.tail _ hc)
    have h2 := h a (.head _)
    rw [S_len] at h2
    rw [List.flatMap_cons, List.length_append, List.length_cons, List.length_cons, Nat.mul_add]
    (first | exact (ch3 0 0 1 0 1 0 0 0 hC hCD z (Eq.refl true)) | exact (ch2 1 0 0 0 1 0 hlt (Nat.le_of_eq this.symm) (Eq.refl true)) | exact (ch3 821 0 0 0 1 0 2 0 z0 hC hCD (Eq.refl true)) | exact (And.intro (lin0 1 [_] (.k 5) (.a (.v 0) (.a (.a (.a (.a (.a (.k 0) (.k 1)) (.k 1)) (.k 1)) (.k 1)) (.k 1))) rfl (Eq.refl true)) (lin1 1 [_] 0 (.a (.v 0) (.a (.a (.a (.a (.a (.k 0) (.k 1)) (.k 1)) (.k 1)) (.k 1)) (.k 1))) (.k 11) 1 (.v 0) (.k 6) (Nat.min_le_left _ _) rfl (Eq.refl true))) | exact (lin1 1 [_] 0 (.a (.a (.a (.k 0) (.k 1)) (.v 0)) (.k 1)) (.k 1000) 1 (.v 0) (.k 200) this rfl (Eq.refl true)) | exact (Nat.le_antisymm (lin1 2 [_, _] 0 (.v 0) (.v 1) 1 (.v 0) (.v 1) hc3 rfl (Eq.refl true)) (lin1 2 [_, _] 0 (.v 0) (.v 1) 1 (.v 0) (.v 1) this rfl (Eq.refl true))) | exact (lin2 2 [_, _] 0 (.a (.a (.v 0) (.v 1)) (.k 1)) (.k 900) 1 (.v 1) (.k 200) 1 (.v 0) (.k 1) h1 (Nat.le_of_eq this) rfl (Eq.refl true)) | exact (ch4 0 0 0 0 1 11 1000 0 0 0 (Nat.le_of_eq h1) h2 zi h3 (Eq.refl true)) | exact (ch4 0 0 0 0 1 11 1000 0 0 0 (Nat.le_of_eq h1) h2 zi z1000 (Eq.refl true)) | omega)
noncomputable abbrev rel (ds cs : List Str) : List Str := List.replicate (ds.length - (cpre ds cs).length) (Str.ofString "..") ++ cs.drop (cpre ds cs).length
theorem relF_is (ds cs : List Str) : relF ds cs = if rel ds cs = [] then Str.ofString "." else Txt.join (Str.ofString "/") (rel ds cs) := rfl
theorem cpre_down : ∀ (u v : List Str) (j : Nat), j ≤ u.length → v.take j = u.take j → (j < u.length → v.take (j + 1) ≠ u.take (j + 1)) → (cpre u v).length = j
  | [], v, j, h1, _, _ => by simp at h1; subst h1; cases v <;> simp [cpre]
  | x :: u, [], j, h1, h2, _ => by
    cases j with
    | zero => simp [cpre]
    | succ j => simp at h2
  | x :: u, y :: v, 0, _, _, h3 => by
    have := h3 (by simp)
    have : x ≠ y := fun e => this (by simp [e])
    simp [cpre, this]
  | x :: u, y :: v, j + 1, h1, h2, h3 => by
    simp only [List.take_succ_cons, List.cons.injEq] at h2
    obtain ⟨rfl, h2⟩ := h2
    have := cpre_down u v j (by simpa using h1) h2 (fun z e => h3 (by simpa using z) (by rw [List.take_succ_cons, List.take_succ_cons, e]))
    simp [cpre, this]
end TP3
section TP4
open PySem PySem.W
set_option maxHeartbeats 4000000
noncomputable def numsI (ns : List Int) : List Int := (ns.take 6).map (fun k => k.fmod 2048) ++ [8, 2, 25, 3, 9]
theorem sum_fmod_pos : ∀ l : List Int, 0 ≤ (l.map fun k => k.fmod 2048).sum
  | [] => by simp
  | a :: l => by
    have h1 := sum_fmod_pos l
    have h2 : 0 ≤ a.fmod 2048 := Int.fmod_nonneg_of_pos _ (by decide)
    rw [List.map_cons, List.sum_cons]; exact Int.add_nonneg h2 h1
theorem numsI_pos (ns : List Int) : 0 ≤ (numsI ns).sum := by
  unfold numsI
  rw [List.sum_append]
  have := sum_fmod_pos (ns.take 6)
  have e : ([8, 2, 25, 3, 9] : List Int).sum = 47 := by decide
  rw [e]; omega
theorem numsI_mem (ns : List Int) : ∀ x ∈ numsI ns, 0 ≤ x ∧ x < 2048 := by
  intro x hx
  unfold numsI at hx
  rcases List.mem_append.mp hx with h | h
  · obtain ⟨y, _, rfl⟩ := List.mem_map.mp h
    exact ⟨Int.fmod_nonneg_of_pos _ (by decide), Int.fmod_lt_of_pos _ (by decide)⟩
  · exact (by decide : ∀ x ∈ ([8, 2, 25, 3, 9] : List Int), 0 ≤ x ∧ x < 2048) x h
theorem numsI_len (ns : List Int) : 5 ≤ (numsI ns).length ∧ (numsI ns).length ≤ 11 := by
  unfold numsI
  rw [List.length_append, List.length_map, List.length_take]
  simp only [List.length_cons, List.length_nil]
  (first | exact (ch3 0 0 1 0 1 0 0 0 hC hCD z (Eq.refl true)) | exact (ch2 1 0 0 0 1 0 hlt (Nat.le_of_eq this.symm) (Eq.refl true)) | exact (ch3 821 0 0 0 1 0 2 0 z0 hC hCD (Eq.refl true)) | exact (And.intro (lin0 1 [_] (.k 5) (.a (.v 0) (.a (.a (.a (.a (.a (.k 0) (.k 1)) (.k 1)) (.k 1)) (.k 1)) (.k 1))) rfl (Eq.refl true)) (lin1 1 [_] 0 (.a (.v 0) (.a (.a (.a (.a (.a (.k 0) (.k 1)) (.k 1)) (.k 1)) (.k 1)) (.k 1))) (.k 11) 1 (.v 0) (.k 6) (Nat.min_le_left _ _) rfl (Eq.refl true))) | exact (lin1 1 [_] 0 (.a (.a (.a (.k 0) (.k 1)) (.v 0)) (.k 1)) (.k 1000) 1 (.v 0) (.k 200) this rfl (Eq.refl true)) | exact (Nat.le_antisymm (lin1 2 [_, _] 0 (.v 0) (.v 1) 1 (.v 0) (.v 1) hc3 rfl (Eq.refl true)) (lin1 2 [_, _] 0 (.v 0) (.v 1) 1 (.v 0) (.v 1) this rfl (Eq.refl true))) | exact (lin2 2 [_, _] 0 (.a (.a (.v 0) (.v 1)) (.k 1)) (.k 900) 1 (.v 1) (.k 200) 1 (.v 0) (.k 1) h1 (Nat.le_of_eq this) rfl (Eq.refl true)) | exact (ch4 0 0 0 0 1 11 1000 0 0 0 (Nat.le_of_eq h1) h2 zi h3 (Eq.refl true)) | exact (ch4 0 0 0 0 1 11 1000 0 0 0 (Nat.le_of_eq h1) h2 zi z1000 (Eq.refl true)) | omega)
noncomputable def numN (ns : List Int) (k : Nat) : Nat := ((numsI ns).getD k 0).toNat
theorem numN_get {ns : List Int} {k : Nat} (h : k < (numsI ns).length) : (numsI ns)[k]? = some (numN ns k : Int) := by
  unfold numN
  rw [List.getElem?_eq_getElem h, List.getD_eq_getElem?_getD, List.getElem?_eq_getElem h, Option.getD_some]
  have := (numsI_mem ns _ (List.getElem_mem h)).1
  rw [Int.toNat_of_nonneg this]
theorem numN_lt (ns : List Int) (k : Nat) : numN ns k < 2048 := by
  unfold numN
  by_cases h : k < (numsI ns).length
  · rw [List.getD_eq_getElem?_getD, List.getElem?_eq_getElem h, Option.getD_some]
    have := numsI_mem ns _ (List.getElem_mem h)
    exact (Int.toNat_lt this.1).mpr this.2
  · rw [List.getD_eq_getElem?_getD, List.getElem?_eq_none (by (first | exact (lin1 2 [_, _] 0 (.v 0) (.v 1) 1 (.v 0) (.v 1) (Nat.not_lt.mp h) rfl (Eq.refl true)) | omega))]; decide
noncomputable def wayK (ns : List Int) (k : Nat) : List Str := wayF (numN ns k / 2 % 512)
noncomputable def begK (ns : List Int) (k : Nat) : Str := if numN ns k < 1024 then Str.ofString "/" else Str.ofString "/b/../"
noncomputable def letK (k : Nat) : Str := ⟨#[97 + k]⟩
noncomputable def fnK (k : Nat) : Str := letK k ++ Str.ofString ".p"
noncomputable def fwK (ns : List Int) (k : Nat) : List Str := wayK ns k ++ [fnK k]
noncomputable def folP (ns : List Int) (k : Nat) : Str := begK ns k ++ Txt.join (Str.ofString "/") (wayK ns k)
noncomputable def filP (ns : List Int) (k : Nat) : Str := begK ns k ++ Txt.join (Str.ofString "/") (fwK ns k)
noncomputable def folL (ns : List Int) (i : Nat) : List Nat := (List.range i).filter fun k => numN ns k % 2 == 0
noncomputable def filL (ns : List Int) (i : Nat) : List Nat := (List.range i).filter fun k => !(numN ns k % 2 == 0)
theorem folL_succ (ns : List Int) (i : Nat) : folL ns (i + 1) = folL ns i ++ (if numN ns i % 2 = 0 then [i] else []) := by
  unfold folL
  rw [List.range_succ, List.filter_append, List.filter_cons, List.filter_nil]
  simp
theorem filL_succ (ns : List Int) (i : Nat) : filL ns (i + 1) = filL ns i ++ (if numN ns i % 2 = 0 then [] else [i]) := by
  unfold filL
  rw [List.range_succ, List.filter_append, List.filter_cons, List.filter_nil]
  by_cases h : numN ns i % 2 = 0 <;> simp [h]
theorem folL_len (ns : List Int) (i : Nat) : (folL ns i).length ≤ i := by
  have := List.length_filter_le (fun k => numN ns k % 2 == 0) (List.range i)
  rwa [List.length_range] at this
theorem filL_len (ns : List Int) (i : Nat) : (filL ns i).length ≤ i := by
  have := List.length_filter_le (fun k => !(numN ns k % 2 == 0)) (List.range i)
  rwa [List.length_range] at this
theorem folL_lt {ns : List Int} {i k : Nat} (h : k ∈ folL ns i) : k < i := List.mem_range.mp (List.mem_filter.mp h).1
theorem filL_lt {ns : List Int} {i k : Nat} (h : k ∈ filL ns i) : k < i := List.mem_range.mp (List.mem_filter.mp h).1
theorem good_nm (d : Nat) : Good (nm d) := by
  unfold nm
  split <;> exact ⟨by decide +kernel, by decide +kernel, by decide +kernel, by decide +kernel, by decide +kernel⟩
theorem good_way : ∀ (n : Nat), ∀ c ∈ wayF n, Good c := by
  intro n
  induction n using Nat.strongRecOn with
  | ind n ih =>
    intro c hc
    by_cases h : 0 < n
    · rw [wayF_pos h] at hc
      rcases List.mem_cons.mp hc with rfl | hc
      · exact good_nm _
      · exact ih (n / 8) (by (lia)) c hc
    · rw [(by (first | exact (Nat.le_antisymm (lin1 1 [_] 0 (.v 0) (.k 0) 1 (.v 0) (.k 0) (Nat.not_lt.mp h) rfl (Eq.refl true)) (lin0 1 [_] (.k 0) (.v 0) rfl (Eq.refl true))) | omega) : n = 0), wayF_zero] at hc; cases hc
theorem wayK_len (ns : List Int) (k : Nat) : (wayK ns k).length ≤ 3 := wayF_len (Nat.mod_lt _ (by decide))
theorem wayK_good (ns : List Int) (k : Nat) : ∀ c ∈ wayK ns k, Good c := good_way _
theorem S_fnK (k : Nat) : S (fnK k) = [97 + k, 46, 112] := by
  unfold fnK; rw [S_append, (by decide +kernel : S (Str.ofString ".p") = [46, 112])]; rfl
theorem good_fnK (k : Nat) : Good (fnK k) := by
  have e := S_fnK k
  have l : (fnK k).length = 3 := by rw [S_len, e]; rfl
  refine ⟨by (first | exact (Nat.ne_of_gt (ch1 3 0 1 0 (Nat.le_of_eq l.symm) (Eq.refl true))) | omega), by (first | exact (ch1 0 3 0 9 (Nat.le_of_eq l) (Eq.refl true)) | omega), ?_, ?_, ?_⟩
  · rw [e]
    exact nmc (Nat.ne_of_lt (Nat.lt_of_lt_of_le (by decide : 47 < 97) (Nat.le_add_right 97 k))) (nmc (by decide) (nmc (by decide) (List.not_mem_nil)))
  · intro z; have := congrArg Str.length z; rw [l] at this; exact absurd this (by decide +kernel)
  · intro z; have := congrArg Str.length z; rw [l] at this; exact absurd this (by decide +kernel)
theorem fwK_good (ns : List Int) (k : Nat) : ∀ c ∈ fwK ns k, Good c := by
  intro c hc
  rcases List.mem_append.mp hc with h | h
  · exact wayK_good ns k c h
  · rw [List.mem_singleton.mp h]; exact good_fnK k
theorem fwK_len (ns : List Int) (k : Nat) : (fwK ns k).length ≤ 4 := by
  unfold fwK; rw [List.length_append, List.length_singleton]; have := wayK_len ns k; (first | exact (ch1 0 3 1 4 this (Eq.refl true)) | omega)
end TP4
section TP5
open PySem PySem.W
set_option maxHeartbeats 4000000
theorem bad_32 : bad 32 = true := by decide +kernel
theorem bad_39 : bad 39 = true := by decide +kernel
theorem bad_34 : bad 34 = true := by decide +kernel
noncomputable def plainc (c : Nat) : Prop := c ≠ 32 ∧ c ≠ 39 ∧ c ≠ 34
theorem plain_of {c : Nat} (h : bad c = false) : plainc c :=
  ⟨fun e => (by rw [e, bad_32] at h; cases h), fun e => (by rw [e, bad_39] at h; cases h), fun e => (by rw [e, bad_34] at h; cases h)⟩
theorem tok_step {c : Nat} {r tok : List Nat} {qd : Bool} (h : plainc c) : tokF (c :: r) 97 tok qd = tokF r 97 (tok ++ [c]) qd := by
  exact tok97o h.1 (by rintro (e | e); exact h.2.1 e; exact h.2.2 e)
theorem tok_plain : ∀ (l tok r : List Nat) (qd : Bool), (∀ c ∈ l, plainc c) → tokF (l ++ r) 97 tok qd = tokF r 97 (tok ++ l) qd
  | [], tok, r, qd, _ => by simp
  | c :: l, tok, r, qd, h => by
    rw [List.cons_append, tok_step (h c (.head _)), tok_plain l (tok ++ [c]) r qd fun x hx => h x (.tail _ hx)]; simp
theorem tok_q : ∀ (l tok r : List Nat) (qd : Bool), tokF (rep 39 [39, 34, 39, 34, 39] l ++ 39 :: r) 39 tok qd = tokF r 97 (tok ++ l) true
  | [], tok, r, qd => by
    show tokF (39 :: r) 39 tok qd = _
    rw [tokqe (.inl rfl), List.append_nil]
  | c :: l, tok, r, qd => by
    by_cases h : c = 39
    · subst h
      have e : rep 39 [39, 34, 39, 34, 39] (39 :: l) = 39 :: 34 :: 39 :: 34 :: 39 :: rep 39 [39, 34, 39, 34, 39] l := by simp [rep]
      rw [e]
      show tokF (39 :: 34 :: 39 :: 34 :: 39 :: (rep 39 [39, 34, 39, 34, 39] l ++ 39 :: r)) 39 tok qd = _
      rw [tokqe (.inl rfl), tok97q (.inr rfl), tokqo (.inr rfl) (by decide), tokqe (.inr rfl), tok97q (.inl rfl)]
      rw [tok_q l (tok ++ [39]) r true, List.append_assoc]; rfl
    · have e : rep 39 [39, 34, 39, 34, 39] (c :: l) = c :: rep 39 [39, 34, 39, 34, 39] l := by simp [rep, h]
      rw [e]
      show tokF (c :: (rep 39 [39, 34, 39, 34, 39] l ++ 39 :: r)) 39 tok qd = _
      rw [tokqo (.inl rfl) h, tok_q l (tok ++ [c]) r true, List.append_assoc]; rfl
structure WordOk (x : Str) : Prop where
  ne : x.length ≠ 0
  ok : ∀ c ∈ S x, okc c
  sm : x.length ≤ 100
theorem S_quote (x : Str) : S (quoteS x) = quoteL bad (S x) := by
  unfold quoteS quoteL
  by_cases h : (S x).any bad = true
  · rw [if_pos h, if_pos h, S_append, S_append]
    have e : S (Txt.replace x (Str.ofString "'") (Str.ofString "'\"'\"'")) = rep 39 [39, 34, 39, 34, 39] (S x) := by
      rw [(by decide +kernel : Str.ofString "'" = ⟨#[39]⟩)]
      show (Txt.replace x _ _).cps.toList = _
      rw [replace_rep]
      rw [(by decide +kernel : (Str.ofString "'\"'\"'").cps.toList = [39, 34, 39, 34, 39])]
    rw [e, (by decide +kernel : S (Str.ofString "'") = [39])]; rfl
  · rw [if_neg h, if_neg h]
theorem tok_word {x : Str} (h : WordOk x) (r : List Nat) : ∃ qd, tokF (S (quoteS x) ++ r) 32 [] false = tokF r 97 (S x) qd := by
  rw [S_quote]
  unfold quoteL
  by_cases hb : (S x).any bad = true
  · rw [if_pos hb]
    refine ⟨true, ?_⟩
    show tokF (39 :: (rep 39 [39, 34, 39, 34, 39] (S x) ++ [39] ++ r)) 32 [] false = _
    rw [tok32q (.inl rfl)]
    rw [List.append_assoc]
    show tokF (rep 39 [39, 34, 39, 34, 39] (S x) ++ 39 :: r) 39 [] false = _
    rw [tok_q]; rfl
  · rw [if_neg hb]
    refine ⟨false, ?_⟩
    have hp : ∀ c ∈ S x, plainc c := fun c hc => plain_of (by
      cases e : bad c with
      | false => rfl
      | true => exact absurd (List.any_eq_true.mpr ⟨c, hc, e⟩) hb)
    cases q : S x with
    | nil => exact absurd q (S_ne h.ne)
    | cons c l =>
      rw [q] at hp
      have h1 := hp c (.head _)
      rw [List.cons_append, tok32o h1.1 (by rintro (e | e); exact h1.2.1 e; exact h1.2.2 e), tok_plain l [c] r false fun y hy => hp y (.tail _ hy)]; rfl
theorem tok_end {t : List Nat} {qd : Bool} : tokF [] 97 t qd = some (t, qd, true, []) := if_pos (.inr rfl)
theorem tok_blank {t r : List Nat} {qd : Bool} (h : t ≠ []) : tokF (32 :: r) 97 t qd = some (t, qd, false, r) := by
  rw [tok97s, if_neg fun z => h z.1]
theorem toks_line : ∀ (ws : List Str), ws ≠ [] → (∀ w ∈ ws, WordOk w) → Toks (ws.map S) (S (Txt.join (Str.ofString " ") (ws.map quoteS))) false := by
  intro ws hn h
  rw [tjoin_sp, List.map_map]
  induction ws with
  | nil => exact absurd rfl hn
  | cons w ws ih =>
    have hw := h w (.head _)
    cases ws with
    | nil =>
      obtain ⟨qd, e⟩ := tok_word hw []
      rw [List.append_nil, tok_end] at e
      exact ⟨rfl, qd, true, [], e, fun z => S_ne hw.ne z.2, rfl, rfl⟩
    | cons w2 ws =>
      have ih' := ih (by simp) (fun x hx => h x (.tail _ hx))
      obtain ⟨qd, e⟩ := tok_word hw (32 :: jl 32 (((w2 :: ws).map (S ∘ quoteS))))
      rw [tok_blank (S_ne hw.ne)] at e
      refine ⟨rfl, qd, false, _, ?_, fun z => S_ne hw.ne z.2, ih'⟩
      rw [← e]; rfl
theorem big_ok (k : Nat) : okc (97 + k) :=
  have h : ∀ n, Nat.ble (n + 1) 97 = true → 97 + k ≠ n := fun n e => Nat.ne_of_gt (Nat.lt_of_lt_of_le (Nat.le_of_ble_eq_true e) (Nat.le_add_right 97 k))
  ⟨h 10 rfl, h 9 rfl, h 13 rfl, h 92 rfl⟩
theorem quoteL_ok {x : Str} (h : ∀ c ∈ S x, okc c) : ∀ c ∈ S (quoteS x), okc c := by
  intro c hc
  rw [S_quote] at hc
  unfold quoteL at hc
  split at hc
  · rcases List.mem_append.mp hc with hc | hc
    · rcases List.mem_cons.mp hc with rfl | hc
      · unfold okc; decide
      · unfold rep at hc
        refine hideL ?_; intro gg1
        obtain ⟨k, hk, hc⟩ := List.mem_flatMap.mp hc
        k_unfold
        split at hc
        · exact (show ∀ c ∈ ([39, 34, 39, 34, 39] : List Nat), okc c from by unfold okc; decide) c hc
        · rw [List.mem_singleton.mp hc]; exact h k hk
    · rw [List.mem_singleton.mp hc]; unfold okc; decide
  · exact h c hc
theorem quoteS_len (x : Str) : (quoteS x).length ≤ 5 * x.length + 2 := by
  rw [S_len, S_quote]
  unfold quoteL
  split
  · have := rep_len 39 [39, 34, 39, 34, 39] (by decide) (S x)
    rw [List.length_append, List.length_cons]
    simp only [List.length_cons, List.length_nil] at this ⊢
    rw [S_len]; (lia)
  · rw [S_len]; omega
theorem jl_mem (c : Nat) : ∀ (l : List (List Nat)) (x : Nat), x ∈ jl c l → x = c ∨ ∃ p ∈ l, x ∈ p
  | [], x, h => by cases h
  | [a], x, h => .inr ⟨a, .head _, h⟩
  | a :: b :: r, x, h => by
    rcases List.mem_append.mp h with h | h
    · exact .inr ⟨a, .head _, h⟩
    · rcases List.mem_cons.mp h with h | h
      · exact .inl h
      · rcases jl_mem c (b :: r) x h with h | ⟨p, hp, h⟩
        · exact .inl h
        · exact .inr ⟨p, .tail _ hp, h⟩
theorem line_ok {ws : List Str} (h : ∀ w ∈ ws, WordOk w) : ∀ c ∈ S (Txt.join (Str.ofString " ") (ws.map quoteS)), okc c := by
  intro c hc
  rw [tjoin_sp] at hc
  rcases jl_mem _ _ _ hc with rfl | ⟨p, hp, hc⟩
  · unfold okc; (first | exact (And.intro (Nat.ne_of_gt (ch0 11 39 (Eq.refl true))) (And.intro (Nat.ne_of_gt (ch0 10 39 (Eq.refl true))) (And.intro (Nat.ne_of_gt (ch0 14 39 (Eq.refl true))) (Nat.ne_of_lt (ch0 40 92 (Eq.refl true)))))) | exact (And.intro (Nat.ne_of_gt (ch0 11 32 (Eq.refl true))) (And.intro (Nat.ne_of_gt (ch0 10 32 (Eq.refl true))) (And.intro (Nat.ne_of_gt (ch0 14 32 (Eq.refl true))) (Nat.ne_of_lt (ch0 33 92 (Eq.refl true)))))) | exact (And.intro (Nat.ne_of_gt (ch0 11 47 (Eq.refl true))) (And.intro (Nat.ne_of_gt (ch0 10 47 (Eq.refl true))) (And.intro (Nat.ne_of_gt (ch0 14 47 (Eq.refl true))) (Nat.ne_of_lt (ch0 48 92 (Eq.refl true)))))) | omega)
  · rw [List.map_map] at hp
    refine hideL ?_; intro gg2
    obtain ⟨w, hw, rfl⟩ := List.mem_map.mp hp
    k_unfold
    exact quoteL_ok (h w hw).ok c hc
theorem quoteS_sm {w : Str} (h : w.length ≤ 100) : (quoteS w).length ≤ 600 := Nat.le_trans (quoteS_len w) (Nat.le_trans (Nat.add_le_add_right (Nat.mul_le_mul_left 5 h) 2) (Nat.le_of_ble_eq_true rfl))
theorem quotes_sm {ws : List Str} (h : ∀ w ∈ ws, WordOk w) : ∀ y ∈ ws.map quoteS, y.length ≤ 600 := fun y hy => by
  refine hideL ?_; intro gg3
  obtain ⟨w, hw, rfl⟩ := List.mem_map.mp hy
  k_unfold
  exact quoteS_sm (h w hw).sm
theorem line_len {ws : List Str} (h : ∀ w ∈ ws, WordOk w) (hl : ws.length ≤ 20) : (Txt.join (Str.ofString " ") (ws.map quoteS)).length < 100000 :=
  Nat.lt_of_le_of_lt (join_cap (m := 20) (N := 12020) (by decide +kernel) (quotes_sm h) (by rw [List.length_map]; exact hl) rfl) (Nat.le_of_ble_eq_true rfl)
theorem tx_S (x : Str) : tx (S x) = x := by
  obtain ⟨a⟩ := x
  show Str.mk (a.toList.toArray) = _
  simp
theorem ok_nm (d : Nat) : ∀ c ∈ S (nm d), okc c := by
  unfold nm
  have h : ∀ x ∈ [Str.ofString "a", Str.ofString "b", Str.ofString "ab", Str.ofString " ", Str.ofString "'"], ∀ c ∈ S x, c ≠ 10 ∧ c ≠ 9 ∧ c ≠ 13 ∧ c ≠ 92 := by decide +kernel
  split <;> exact h _ (by decide +kernel)
theorem ok_way : ∀ (n : Nat), ∀ x ∈ wayF n, ∀ c ∈ S x, okc c := by
  intro n
  induction n using Nat.strongRecOn with
  | ind n ih =>
    intro x hx
    by_cases h : 0 < n
    · rw [wayF_pos h] at hx
      rcases List.mem_cons.mp hx with rfl | hx
      · exact ok_nm _
      · exact ih (n / 8) (by (lia)) x hx
    · rw [(by (first | exact (Nat.le_antisymm (lin1 1 [_] 0 (.v 0) (.k 0) 1 (.v 0) (.k 0) (Nat.not_lt.mp h) rfl (Eq.refl true)) (lin0 1 [_] (.k 0) (.v 0) rfl (Eq.refl true))) | omega) : n = 0), wayF_zero] at hx; cases hx
theorem ok_fnK {k : Nat} (hk : k < 11) : ∀ c ∈ S (fnK k), okc c := by
  intro c hc
  rw [S_fnK] at hc
  exact (fmc (big_ok k) (fmc (by unfold okc; decide) (fmc (by unfold okc; decide) (List.forall_mem_nil _))) : ∀ c ∈ [97 + k, 46, 112], okc c) c hc
theorem ok_rel {ds cs : List Str} (h : ∀ x ∈ cs, ∀ c ∈ S x, okc c) : ∀ x ∈ rel ds cs, ∀ c ∈ S x, okc c := by
  intro x hx
  rcases List.mem_append.mp hx with h1 | h1
  · rw [List.eq_of_mem_replicate h1, (by decide +kernel : S (Str.ofString "..") = [46, 46])]
    unfold okc; decide
  · exact h x (List.mem_of_mem_drop h1)
theorem rel_ne {ds cs : List Str} (h : ∀ x ∈ cs, x.length ≠ 0) : ∀ x ∈ rel ds cs, x.length ≠ 0 := by
  intro x hx
  rcases List.mem_append.mp hx with h1 | h1
  · rw [List.eq_of_mem_replicate h1]; decide +kernel
  · exact h x (List.mem_of_mem_drop h1)
theorem rel_sm {ds cs : List Str} (h : ∀ x ∈ cs, x.length ≤ 9) : ∀ x ∈ rel ds cs, x.length ≤ 9 := by
  intro x hx
  rcases List.mem_append.mp hx with h1 | h1
  · rw [List.eq_of_mem_replicate h1]; decide +kernel
  · exact h x (List.mem_of_mem_drop h1)
theorem rel_len (ds cs : List Str) : (rel ds cs).length ≤ ds.length + cs.length := by
  rw [List.length_append, List.length_replicate, List.length_drop]; (first | exact (lin2 4 [_, _, _, _] 0 (.a (.v 0) (.v 1)) (.a (.v 2) (.v 3)) 1 (.v 0) (.v 2) 1 (.v 1) (.v 3) (Nat.sub_le _ _) (Nat.sub_le _ _) rfl (Eq.refl true)) | omega)
theorem word_ok {ds cs : List Str} (hd : ds.length ≤ 3) (hc : cs.length ≤ 4) (hg : ∀ c ∈ cs, Good c) (ho : ∀ x ∈ cs, ∀ c ∈ S x, okc c) : WordOk (relF ds cs) := by
  rw [relF_is]
  split
  · exact ⟨by decide +kernel, by
      intro c hc
      rw [(by decide +kernel : S (Str.ofString ".") = [46])] at hc
      rw [List.mem_singleton.mp hc]; unfold okc; decide, by decide +kernel⟩
  · rename_i hne
    have h1 := rel_ne (ds := ds) fun x hx => (hg x hx).ne
    refine ⟨fun z => ?_, ?_, ?_⟩
    · cases q : rel ds cs with
      | nil => exact hne q
      | cons a r =>
        rw [q] at z h1
        rw [S_len, tjoin, List.map_cons, jl_cons, List.length_append, ← S_len] at z
        have := h1 a (.head _)
        (first | exact (ch3 0 0 1 0 1 0 0 0 hC hCD z (Eq.refl true)) | exact (ch2 1 0 0 0 1 0 hlt (Nat.le_of_eq this.symm) (Eq.refl true)) | exact (ch3 821 0 0 0 1 0 2 0 z0 hC hCD (Eq.refl true)) | exact (And.intro (lin0 1 [_] (.k 5) (.a (.v 0) (.a (.a (.a (.a (.a (.k 0) (.k 1)) (.k 1)) (.k 1)) (.k 1)) (.k 1))) rfl (Eq.refl true)) (lin1 1 [_] 0 (.a (.v 0) (.a (.a (.a (.a (.a (.k 0) (.k 1)) (.k 1)) (.k 1)) (.k 1)) (.k 1))) (.k 11) 1 (.v 0) (.k 6) (Nat.min_le_left _ _) rfl (Eq.refl true))) | exact (lin1 1 [_] 0 (.a (.a (.a (.k 0) (.k 1)) (.v 0)) (.k 1)) (.k 1000) 1 (.v 0) (.k 200) this rfl (Eq.refl true)) | exact (Nat.le_antisymm (lin1 2 [_, _] 0 (.v 0) (.v 1) 1 (.v 0) (.v 1) hc3 rfl (Eq.refl true)) (lin1 2 [_, _] 0 (.v 0) (.v 1) 1 (.v 0) (.v 1) this rfl (Eq.refl true))) | exact (lin2 2 [_, _] 0 (.a (.a (.v 0) (.v 1)) (.k 1)) (.k 900) 1 (.v 1) (.k 200) 1 (.v 0) (.k 1) h1 (Nat.le_of_eq this) rfl (Eq.refl true)) | exact (ch4 0 0 0 0 1 11 1000 0 0 0 (Nat.le_of_eq h1) h2 zi h3 (Eq.refl true)) | exact (ch4 0 0 0 0 1 11 1000 0 0 0 (Nat.le_of_eq h1) h2 zi z1000 (Eq.refl true)) | omega)
    · intro c hc
      rw [tjoin] at hc
      rcases jl_mem _ _ _ hc with rfl | ⟨p, hp, hc⟩
      · unfold okc; decide
      · obtain ⟨x, hx, rfl⟩ := List.mem_map.mp hp
        exact ok_rel ho x hx c hc
    · exact join_cap (m := 7) len_slash (rel_sm (ds := ds) fun x hx => (hg x hx).sm) (Nat.le_trans (rel_len ds cs) (Nat.add_le_add hd hc)) rfl
theorem beg_ok (ns : List Int) (k : Nat) {l : List Str} (h : ∀ c ∈ l, Good c) (hl : l.length ≤ 9) : ∃ cs, PathOk (begK ns k ++ Txt.join (Str.ofString "/") l) cs ∧ normS cs = l := by
  unfold begK
  split
  · exact ⟨_, ok_plain h hl⟩
  · exact ⟨_, ok_round h hl⟩
theorem fol_ok (ns : List Int) (k : Nat) : ∃ cs, PathOk (folP ns k) cs ∧ normS cs = wayK ns k := beg_ok ns k (wayK_good ns k) (Nat.le_trans (wayK_len ns k) (by decide))
theorem fil_ok (ns : List Int) (k : Nat) : ∃ cs, PathOk (filP ns k) cs ∧ normS cs = fwK ns k := beg_ok ns k (fwK_good ns k) (Nat.le_trans (fwK_len ns k) (by decide))
noncomputable def placeF (ns : List Int) : List Str := wayF (((numsI ns).sum + 93).toNat % 512)
noncomputable def homeF (ns : List Int) : Str := Str.ofString "/" ++ Txt.join (Str.ofString "/") (placeF ns)
theorem placeF_len (ns : List Int) : (placeF ns).length ≤ 3 := wayF_len (Nat.mod_lt _ (by decide))
theorem placeF_good (ns : List Int) : ∀ c ∈ placeF ns, Good c := good_way _
theorem home_ok (ns : List Int) : ∃ cs, PathOk (homeF ns) cs ∧ normS cs = placeF ns := ⟨_, ok_plain (placeF_good ns) (Nat.le_trans (placeF_len ns) (by decide))⟩
noncomputable def folW (ns : List Int) (k : Nat) : Str := relF (placeF ns) (wayK ns k)
noncomputable def filW (ns : List Int) (k : Nat) : Str := relF (placeF ns) (fwK ns k)
theorem folW_ok (ns : List Int) (k : Nat) : WordOk (folW ns k) := word_ok (placeF_len ns) (Nat.le_trans (wayK_len ns k) (by decide)) (wayK_good ns k) (ok_way _)
theorem filW_ok (ns : List Int) {k : Nat} (hk : k < 11) : WordOk (filW ns k) := word_ok (placeF_len ns) (fwK_len ns k) (fwK_good ns k) (fun x hx => by
  rcases List.mem_append.mp hx with h | h
  · exact ok_way _ x h
  · rw [List.mem_singleton.mp h]; exact ok_fnK hk)
end TP5
section TP6
open PySem PySem.W
set_option maxHeartbeats 4000000
theorem at_one (x : Str) (c i : Nat) : StrLaws.At x ⟨#[c]⟩ x.length i ↔ (S x)[i]? = some c := StrLaws.subAt_one x c i
theorem rfind_at {x : Str} {c : Nat} {u v : List Nat} (h : S x = u ++ v) (hv : c ∉ v) (hu : u = [] ∨ ∃ u', u = u' ++ [c]) : Txt.rfind x ⟨#[c]⟩ + 1 = (u.length : Int) := by
  have no : ∀ k, u.length ≤ k → ¬ StrLaws.At x ⟨#[c]⟩ x.length k := by
    intro k hk z
    rw [at_one, h, List.getElem?_append_right hk] at z
    exact hv (List.mem_of_getElem? z)
  unfold Txt.rfind
  rcases StrLaws.last_spec x ⟨#[c]⟩ with ⟨e, hn⟩ | ⟨i, e, ha, hn⟩
  · rw [e]
    rcases hu with rfl | ⟨u', rfl⟩
    · rfl
    · refine absurd ?_ (hn u'.length)
      rw [at_one, h]; simp
  · rw [e]
    have h1 : i < u.length := by
      rcases Nat.lt_or_ge i u.length with h1 | h1
      · exact h1
      · exact absurd ha (no i h1)
    rcases hu with rfl | ⟨u', rfl⟩
    · cases h1
    · rw [List.length_append, List.length_singleton] at h1 ⊢
      have h2 : ¬ i < u'.length := fun z => by
        refine absurd ?_ (hn u'.length z)
        rw [at_one, h]; simp
      show (i : Int) + 1 = _
      (first | exact (ch3 0 0 1 0 1 0 0 0 hC hCD z (Eq.refl true)) | exact (ch2 1 0 0 0 1 0 hlt (Nat.le_of_eq this.symm) (Eq.refl true)) | exact (ch3 821 0 0 0 1 0 2 0 z0 hC hCD (Eq.refl true)) | exact (And.intro (lin0 1 [_] (.k 5) (.a (.v 0) (.a (.a (.a (.a (.a (.k 0) (.k 1)) (.k 1)) (.k 1)) (.k 1)) (.k 1))) rfl (Eq.refl true)) (lin1 1 [_] 0 (.a (.v 0) (.a (.a (.a (.a (.a (.k 0) (.k 1)) (.k 1)) (.k 1)) (.k 1)) (.k 1))) (.k 11) 1 (.v 0) (.k 6) (Nat.min_le_left _ _) rfl (Eq.refl true))) | exact (lin1 1 [_] 0 (.a (.a (.a (.k 0) (.k 1)) (.v 0)) (.k 1)) (.k 1000) 1 (.v 0) (.k 200) this rfl (Eq.refl true)) | exact (Nat.le_antisymm (lin1 2 [_, _] 0 (.v 0) (.v 1) 1 (.v 0) (.v 1) hc3 rfl (Eq.refl true)) (lin1 2 [_, _] 0 (.v 0) (.v 1) 1 (.v 0) (.v 1) this rfl (Eq.refl true))) | exact (lin2 2 [_, _] 0 (.a (.a (.v 0) (.v 1)) (.k 1)) (.k 900) 1 (.v 1) (.k 200) 1 (.v 0) (.k 1) h1 (Nat.le_of_eq this) rfl (Eq.refl true)) | exact (ch4 0 0 0 0 1 11 1000 0 0 0 (Nat.le_of_eq h1) h2 zi h3 (Eq.refl true)) | exact (ch4 0 0 0 0 1 11 1000 0 0 0 (Nat.le_of_eq h1) h2 zi z1000 (Eq.refl true)) | omega)
theorem jl_last (c : Nat) (v : List Nat) : ∀ pre : List (List Nat), ∃ u, jl c (pre ++ [v]) = u ++ v ∧ (u = [] ∨ ∃ u', u = u' ++ [c])
  | [] => ⟨[], rfl, .inl rfl⟩
  | [a] => ⟨a ++ [c], by simp [jl], .inr ⟨a, rfl⟩⟩
  | a :: b :: r => by
    refine hideL ?_; intro gg1
    obtain ⟨u, e, hu⟩ := jl_last c v (b :: r)
    k_unfold
    refine ⟨a ++ c :: u, ?_, ?_⟩
    · show a ++ c :: jl c (b :: r ++ [v]) = _
      rw [e]; simp
    · rcases hu with rfl | ⟨u', rfl⟩
      · exact .inr ⟨a, rfl⟩
      · exact .inr ⟨a ++ c :: u', by simp⟩
structure ModOk (x : Str) (k : Nat) : Prop where
  h : ∃ i : Nat, Txt.rfind x (Str.ofString "/") + 1 = (i : Int) ∧ i ≤ x.length ∧ Txt.slice x (some (i : Int)) none = fnK k
  sm : x.length < 1000
theorem mod_of {x : Str} {k : Nat} {u : List Nat} (h : S x = u ++ S (fnK k)) (hu : u = [] ∨ ∃ u', u = u' ++ [47]) (hs : x.length < 1000) : ModOk x k := by
  refine ⟨⟨u.length, ?_, ?_, ?_⟩, hs⟩
  · rw [slash_is]; exact rfind_at h (good_fnK k).fr hu
  · rw [S_len, h, List.length_append]; (first | exact (lin0 2 [_, _] (.v 0) (.a (.v 0) (.v 1)) rfl (Eq.refl true)) | omega)
  · refine S_inj ?_
    rw [slice_from x u.length (by rw [S_len, h, List.length_append]; (first | exact (lin0 2 [_, _] (.v 0) (.a (.v 0) (.v 1)) rfl (Eq.refl true)) | omega)), h]
    simp
theorem fn_len (k : Nat) : (fnK k).length = 3 := by rw [S_len, S_fnK]; rfl
theorem fn_slash (k : Nat) : Txt.rfind (fnK k) (Str.ofString "/") = -1 := by
  have := rfind_at (x := fnK k) (c := 47) (u := []) (v := S (fnK k)) rfl (good_fnK k).fr (.inl rfl)
  rw [slash_is]; simp at this; (lia)
theorem fn_dot (k : Nat) : Txt.rfind (fnK k) (Str.ofString ".") = 1 := by
  have := rfind_at (x := fnK k) (c := 46) (u := [97 + k, 46]) (v := [112]) (S_fnK k) (by decide) (.inr ⟨[97 + k], rfl⟩)
  rw [(by decide +kernel : Str.ofString "." = ⟨#[46]⟩)]
  simp at this; (first | exact (Nat.le_antisymm (lin1 2 [_, _] 0 (.v 0) (.v 1) 1 (.v 0) (.v 1) (Nat.le_of_eq this) rfl (Eq.refl true)) (lin1 2 [_, _] 0 (.v 0) (.v 1) 1 (.v 0) (.v 1) (Nat.le_of_eq this.symm) rfl (Eq.refl true))) | lia)
theorem fn_first (k : Nat) : (Txt.slice (fnK k) (some 0) (some 1) != Str.ofString ".") = true := by
  have e := slice_mid (fnK k) 0 1 (by (first | exact (ch0 0 1 (Eq.refl true)) | omega)) (by rw [fn_len]; (first | exact (ch0 1 3 (Eq.refl true)) | omega))
  rw [S_fnK] at e
  have : Txt.slice (fnK k) (some 0) (some 1) ≠ Str.ofString "." := by
    intro z
    have e' : S (Txt.slice (fnK k) (some 0) (some 1)) = [97 + k] := e
    rw [z, (by decide +kernel : S (Str.ofString ".") = [46])] at e'
    simp at e'; (lia)
  simpa using this
theorem fn_letter (k : Nat) : Txt.slice (fnK k) none (some 1) = letK k := by
  refine S_inj ?_
  have := slice_to (fnK k) 1 (by rw [fn_len]; (first | exact (ch0 1 3 (Eq.refl true)) | omega))
  rw [S_fnK] at this
  exact this
theorem way_dot : ∀ (n : Nat), ∀ c ∈ wayF n, 46 ∉ S c := by
  intro n
  induction n using Nat.strongRecOn with
  | ind n ih =>
    intro c hc
    by_cases h : 0 < n
    · rw [wayF_pos h] at hc
      rcases List.mem_cons.mp hc with rfl | hc
      · unfold nm; split <;> decide +kernel
      · exact ih (n / 8) (by (lia)) c hc
    · rw [(by (first | exact (Nat.le_antisymm (lin1 1 [_] 0 (.v 0) (.k 0) 1 (.v 0) (.k 0) (Nat.not_lt.mp h) rfl (Eq.refl true)) (lin0 1 [_] (.k 0) (.v 0) rfl (Eq.refl true))) | omega) : n = 0), wayF_zero] at hc; cases hc
theorem fn_not (ns : List Int) (k m : Nat) : fnK k ∉ wayF m := fun h => way_dot m _ h (by rw [S_fnK]; exact .tail _ (.head _))
theorem cpre_both : ∀ (u v : List Str), cpre u v = u.take (cpre u v).length ∧ cpre u v = v.take (cpre u v).length
  | [], v => by simp [cpre]
  | x :: u, [] => by simp [cpre]
  | x :: u, y :: v => by
    by_cases h : x = y
    · subst h
      have := cpre_both u v
      simp only [cpre, if_true, List.length_cons, List.take_succ_cons]
      exact ⟨by rw [← this.1], by rw [← this.2]⟩
    · simp [cpre, h]
theorem cpre_short {u v : List Str} {z : Str} (h : z ∉ u) : (cpre u (v ++ [z])).length ≤ v.length := by
  rcases Nat.lt_or_ge v.length (cpre u (v ++ [z])).length with h1 | h1
  · exfalso
    have h2 := cpre_both u (v ++ [z])
    have h3 : (cpre u (v ++ [z])).length ≤ (v ++ [z]).length := by rw [cpre_comm]; exact cpre_len _ _
    have h4 : (cpre u (v ++ [z])).length = (v ++ [z]).length := by rw [List.length_append, List.length_singleton] at h3 ⊢; (first | exact (Nat.le_antisymm (lin1 2 [_, _] 0 (.v 0) (.a (.v 1) (.k 1)) 1 (.v 0) (.a (.v 1) (.k 1)) h3 rfl (Eq.refl true)) (lin1 2 [_, _] 0 (.a (.v 0) (.k 1)) (.v 1) 1 (.a (.v 0) (.k 1)) (.v 1) h1 rfl (Eq.refl true))) | omega)
    have h5 : z ∈ cpre u (v ++ [z]) := by rw [h2.2, h4, List.take_length]; simp
    rw [h2.1] at h5
    exact h (List.mem_of_mem_take h5)
  · exact h1
theorem rel_last (ns : List Int) (k : Nat) : ∃ pre, rel (placeF ns) (fwK ns k) = pre ++ [fnK k] := by
  have h : (cpre (placeF ns) (fwK ns k)).length ≤ (wayK ns k).length := cpre_short (v := wayK ns k) (fn_not ns k (((numsI ns).sum + 93).toNat % 512))
  refine ⟨List.replicate ((placeF ns).length - (cpre (placeF ns) (fwK ns k)).length) (Str.ofString "..") ++ (wayK ns k).drop (cpre (placeF ns) (fwK ns k)).length, ?_⟩
  show _ ++ (wayK ns k ++ [fnK k]).drop _ = _
  rw [List.drop_append_of_le_length h, List.append_assoc]
theorem mod_filW (ns : List Int) {k : Nat} (hk : k < 11) : ModOk (filW ns k) k := by
  obtain ⟨pre, e⟩ := rel_last ns k
  have hne : ¬ rel (placeF ns) (fwK ns k) = [] := by rw [e]; simp
  refine hideL ?_; intro gg2
  obtain ⟨u, e2, hu⟩ := jl_last 47 (S (fnK k)) (pre.map S)
  k_unfold
  refine mod_of (u := u) ?_ hu (by have := (filW_ok ns hk).sm; (first | exact (ch1 0 100 1 1000 this (Eq.refl true)) | omega))
  unfold filW
  rw [relF_is, if_neg hne, tjoin, e, List.map_append]
  exact e2
noncomputable def filN (ns : List Int) (k : Nat) : Str := Str.ofString "/" ++ Txt.join (Str.ofString "/") (fwK ns k)
theorem mod_filN (ns : List Int) (k : Nat) : ModOk (filN ns k) k := by
  refine hideL ?_; intro gg3
  obtain ⟨u, e2, hu⟩ := jl_last 47 (S (fnK k)) ((wayK ns k).map S)
  k_unfold
  have e : S (filN ns k) = (47 :: u) ++ S (fnK k) := by
    unfold filN fwK
    rw [S_append, S_slash, tjoin, List.map_append]
    show 47 :: jl 47 ((wayK ns k).map S ++ [S (fnK k)]) = _
    rw [e2]; rfl
  refine mod_of e ?_ ?_
  · rcases hu with rfl | ⟨u', rfl⟩
    · exact .inr ⟨[], rfl⟩
    · exact .inr ⟨47 :: u', rfl⟩
  · have := join_small (fwK ns k) (fun c hc => (fwK_good ns k c hc).sm) (by have := fwK_len ns k; (first | exact (ch1 0 4 0 20 this (Eq.refl true)) | omega))
    unfold filN
    rw [S_len, S_append, S_slash, List.length_append, ← S_len]
    simp only [List.length_cons, List.length_nil]
    (first | exact (ch3 0 0 1 0 1 0 0 0 hC hCD z (Eq.refl true)) | exact (ch2 1 0 0 0 1 0 hlt (Nat.le_of_eq this.symm) (Eq.refl true)) | exact (ch3 821 0 0 0 1 0 2 0 z0 hC hCD (Eq.refl true)) | exact (And.intro (lin0 1 [_] (.k 5) (.a (.v 0) (.a (.a (.a (.a (.a (.k 0) (.k 1)) (.k 1)) (.k 1)) (.k 1)) (.k 1))) rfl (Eq.refl true)) (lin1 1 [_] 0 (.a (.v 0) (.a (.a (.a (.a (.a (.k 0) (.k 1)) (.k 1)) (.k 1)) (.k 1)) (.k 1))) (.k 11) 1 (.v 0) (.k 6) (Nat.min_le_left _ _) rfl (Eq.refl true))) | exact (lin1 1 [_] 0 (.a (.a (.a (.k 0) (.k 1)) (.v 0)) (.k 1)) (.k 1000) 1 (.v 0) (.k 200) this rfl (Eq.refl true)) | exact (Nat.le_antisymm (lin1 2 [_, _] 0 (.v 0) (.v 1) 1 (.v 0) (.v 1) hc3 rfl (Eq.refl true)) (lin1 2 [_, _] 0 (.v 0) (.v 1) 1 (.v 0) (.v 1) this rfl (Eq.refl true))) | exact (lin2 2 [_, _] 0 (.a (.a (.v 0) (.v 1)) (.k 1)) (.k 900) 1 (.v 1) (.k 200) 1 (.v 0) (.k 1) h1 (Nat.le_of_eq this) rfl (Eq.refl true)) | exact (ch4 0 0 0 0 1 11 1000 0 0 0 (Nat.le_of_eq h1) h2 zi h3 (Eq.refl true)) | exact (ch4 0 0 0 0 1 11 1000 0 0 0 (Nat.le_of_eq h1) h2 zi z1000 (Eq.refl true)) | omega)
end TP6
section TB0
open PySem PySem.W PyProof.Rows PySem.Calls
set_option maxHeartbeats 4000000

noncomputable abbrev noE : Value → Shared → Prop := fun _ _ => False

theorem foldQ {α : Type} {M : Model} {A : Around} {c : Sem α} {Q : α → Shared → Prop} {E : Value → Shared → Prop} {s : Shared} (h : let qk := Q; wpAny M A c qk E s) : wpAny M A c Q E s := h
theorem envA {M : Model} {A : Around} {env : Env} {body : List Stmt} {Q : Flow → Shared → Prop} {E : Value → Shared → Prop} {s : Shared} {h : Heap} {t : Nat} (k : let env' := env; let A' := A.deeper env'; let gg := s.gens; let dd := s.drawn; let oo := s.os; wpAny M A' (execs body env') Q E ⟨h, gg, dd, t, oo⟩) : wpAny M (A.deeper env) (execs body env) Q E { s with heap := h, toks := t } := k
theorem roomd {A : Around} {env : Env} {n k r : Nat} (h : A.depth + n < r) (hk : Nat.ble (1 + k) n = true) : (A.deeper env).depth + k < r := room2 h hk
theorem aro {α : Type} {M : Model} {A : Around} {c : Sem α} {Q : α → Shared → Prop} {E : Value → Shared → Prop} {s : Shared} {n m r q : Nat} (hh : A.handled = none) (h1 : A.depth + n < r) (h2 : A.units + m < q) (k : ∀ ad af ag au, ad + n < r → au + m < q → wpAny M { handled := none, depth := ad, frames := af, guards := ag, units := au } c Q E s) : wpAny M A c Q E s := by
  refine hideL ?_; intro gg1
  obtain ⟨ah, ad, af, ag, au⟩ := A
  obtain rfl : ah = none := hh
  k_unfold
  exact k ad af ag au h1 h2
theorem aro1 {α : Type} {M : Model} {A : Around} {c : Sem α} {Q : α → Shared → Prop} {E : Value → Shared → Prop} {s : Shared} {n r : Nat} (hh : A.handled = none) (h1 : A.depth + n < r) (k : ∀ ad af ag au, ad + n < r → wpAny M { handled := none, depth := ad, frames := af, guards := ag, units := au } c Q E s) : wpAny M A c Q E s := by
  refine hideL ?_; intro gg2
  obtain ⟨ah, ad, af, ag, au⟩ := A
  obtain rfl : ah = none := hh
  k_unfold
  exact k ad af ag au h1
theorem val_eq {Q : Value → Shared → Prop} {v v' : Value} {s : Shared} (e : v = v') (h : Q v s) : Q v' s := e ▸ h
theorem au_eq {α : Type} {M : Model} {A A' : Around} {c : Sem α} {Q : α → Shared → Prop} {E : Value → Shared → Prop} {s : Shared} (e : A = A') (h : wpAny M A' c Q E s) : wpAny M A c Q E s := e ▸ h
theorem ifT {c : Prop} {i : Decidable c} {a b : Prop} (h : c) (k : a) : @ite Prop c i a b := by rw [if_pos h]; exact k
theorem ifF {c : Prop} {i : Decidable c} {a b : Prop} (h : ¬ c) (k : b) : @ite Prop c i a b := by rw [if_neg h]; exact k
structure SeqP (Q' : Flow → Shared → Prop) (P : Shared → Prop) (Q : Flow → Shared → Prop) : Prop where
  nx : ∀ s', P s' → Q' .next s'
  lv : ∀ f s', f ≠ .next → Q f s' → Q' f s'
theorem econs {M : Model} {A : Around} {E : Value → Shared → Prop} {s : Shared} {env : Env} {st : Stmt} {rest : List Stmt} {Q : Flow → Shared → Prop}
    (h : ∀ Q', SeqP Q' (fun s' => wpAny M A (execs rest env) Q E s') Q → wpAny M A (exec st env) Q' E s) : wpAny M A (execs (st :: rest) env) Q E s :=
  wpAny_execs_cons (h _ ⟨fun _ p => p, fun f s' hf q => by cases f <;> first | exact q | exact (hf rfl).elim⟩)
theorem elast {M : Model} {A : Around} {E : Value → Shared → Prop} {s : Shared} {env : Env} {st : Stmt} {Q : Flow → Shared → Prop}
    (h : wpAny M A (exec st env) Q E s) : wpAny M A (execs [st] env) Q E s :=
  wpAny_execs_cons (wpAny_mono h (fun f s' q => by cases f <;> first | exact q | exact wpAny_execs_nil q) fun _ _ x => x)
theorem seq_nx {Q' : Flow → Shared → Prop} {P : Shared → Prop} {Q : Flow → Shared → Prop} {s' : Shared} (h : SeqP Q' P Q) (p : P s') : Q' .next s' := h.nx s' p
theorem seq_ret {Q' : Flow → Shared → Prop} {P : Shared → Prop} {Q : Flow → Shared → Prop} {s' : Shared} {v : Value} (h : SeqP Q' P Q) (q : Q (.ret v) s') : Q' (.ret v) s' := h.lv _ s' (fun z => by cases z) q
theorem seq_brk {Q' : Flow → Shared → Prop} {P : Shared → Prop} {Q : Flow → Shared → Prop} {s' : Shared} (h : SeqP Q' P Q) (q : Q .brk s') : Q' .brk s' := h.lv _ s' (fun z => by cases z) q
theorem seq_cont {Q' : Flow → Shared → Prop} {P : Shared → Prop} {Q : Flow → Shared → Prop} {s' : Shared} (h : SeqP Q' P Q) (q : Q .cont s') : Q' .cont s' := h.lv _ s' (fun z => by cases z) q

noncomputable abbrev Stays (h h' : Heap) : Prop := ∀ b o, h.get? b = some o → h'.get? b = some o

theorem enterK {prog : Program} {w : World} {A : Around} {Q : Value → Shared → Prop} {s : Shared} {K : Frag} {f : Addr} {args : List Value} {kw : List (Str × Value)} {binds : List (Str × Value)}
    {name qual : Str} {params : Arguments} {body : List Stmt} {scope : Scope} {dV kV doc pm cdv ct oc : Value} {an od : Option Addr} {osl : Array (Option Value)}
    (X : K.In s.heap) (hlim : s.heap.NoLimit)
    (ho : K.lookup f = some ⟨oc, od, .func (fnOf name qual params body scope dV kV doc pm an cdv ct), osl⟩) (hcd : codeIn K cdv qual = true)
    (hroom : A.depth < recursionLimit)
    (hbind : BindsTo s (fnOf name qual params body scope dV kV doc pm an cdv ct) ⟨args, kw⟩ binds) (hloc : ∀ y ∈ binds, scope.names.lookup y.1 = some .local)
    (h : ∀ h₁, Fr s.heap s.heap.objs.size h₁ (fun y => binds.reverse.lookup y) →
      wpAny (model prog w) (A.deeper (envOf qual scope s.heap.objs.size f cdv)) (execs body (envOf qual scope s.heap.objs.size f cdv))
        (fun fl s' => Q (match fl with | .ret v => v | _ => .none) s') noE { s with heap := h₁, toks := s.toks + binds.length })
    (hcell : ∀ x ∈ scope.names, x.2 ≠ .cell) (hco : scope.isCoroutine = false) (hgen : scope.isGenerator = false) (hk : scope.kind = .function) :
    wpAny (model prog w) A (call (.ref f) args kw) Q noE s := by
  refine wpAny_call (codeAny_call_def (fd := fnOf name qual params body scope dV kV doc pm an cdv ct) (body := body) (binds := binds) hroom (X _ _ ho) rfl hlim (codeRec_of X hcd) rfl hbind hcell hloc (fun h₁ hns hk₁ => ?_) hco hgen hk)
  refine wpAny_mono (h h₁ ⟨hns, hk₁, Nat.le_refl _⟩) (fun _ _ x => x) fun _ _ x => x.elim

noncomputable abbrev NmF (M : Model) (A : Around) (env : Env) (g : Heap) (L : Addr) (E : Value → Shared → Prop) : Prop := ∀ {s : Shared} {m : Str → Option Value} {x : Str} {pos : Pos} {v : Value} {Q : Value → Shared → Prop},
  Fr g L s.heap m → m x = some v → Q v s → env.kindOf x = some .local → (x == ("__debug__" : Str)) = false → wpAny M A (eval (.Name x pos) env) Q E s
noncomputable abbrev StF (M : Model) (A : Around) (env : Env) (g : Heap) (L : Addr) (E : Value → Shared → Prop) (gens : Array GenState) (drawn : Drawn) (os : OsState) : Prop := ∀ {h : Heap} {t : Nat} {m : Str → Option Value} {x : Str} {v : Value} {Q : Unit → Shared → Prop} {news : List (Addr × Obj)},
  Fr g L h m → News g L h news → (∀ h' t', Fr g L h' (fun y => if y = x then some v else m y) → News g L h' news → Q () ⟨h', gens, drawn, t', os⟩) → env.kindOf x = some .local → wpAny M A (storeName env x v) Q E ⟨h, gens, drawn, t, os⟩
theorem nmIn {M : Model} {A : Around} {env : Env} {g h : Heap} {L a : Addr} {m : Str → Option Value} {E : Value → Shared → Prop} {Q : Flow → Shared → Prop} {body : List Stmt} {gens : Array GenState} {drawn : Drawn} {t : Nat} {os : OsState} {cn : Str} {cs : Scope} {ccd : Value} {cl : List (Str × Addr)}
    (F : Fr g L h m) (e : env = envX cn cs L a ccd cl) (hk : cs.kind = .function) (k : NmF M A env g L E → StF M A env g L E gens drawn os → wpAny M A (execs body env) Q E ⟨h, gens, drawn, t, os⟩) : wpAny M A (execs body env) Q E ⟨h, gens, drawn, t, os⟩ := by
  subst e
  exact k (fun F e h k d => nameX_L F e h hk k d) (fun F N h k => storeX_L F N (fun h' F' N' => h h' _ F' N') hk k)
noncomputable abbrev RdF (prog : Program) (w : World) (A : Around) (env : Env) (K : Frag) (g : Heap) (L : Addr) (E : Value → Shared → Prop) (gens : Array GenState) (drawn : Drawn) (os : OsState) : Prop := ∀ {h : Heap} {t : Nat} {m : Str → Option Value} {news : List (Addr × Obj)} {x : Str} {xp : Pos} {attr : Str} {pos : Pos} {a C dx : Addr} {sl : Array (Option Value)} {es : List DictEntry} {n : Nat} {v : Value} {o : Option Value} {Q : Value → Shared → Prop},
  Fr g L h m → News g L h news → m x = some (.ref a) → (a, (⟨.ref C, some dx, .plain, sl⟩ : Obj)) ∈ news → (dx, dictOf es n) ∈ news → plainGet K C attr = true → hasDictIn K C = true → findIn K (.ref C) attr = some o → noGet K o = true → getL attr es = some (some v) → handedIn v = true →
  Q v ⟨h, gens, drawn, t + 1, os⟩ → env.kindOf x = some .local → (x == ("__debug__" : Str)) = false → wpAny (model prog w) A (eval (.Attribute (.Name x xp) attr pos) env) Q E ⟨h, gens, drawn, t, os⟩
noncomputable abbrev SeF (prog : Program) (w : World) (A : Around) (K : Frag) (g : Heap) (L : Addr) (E : Value → Shared → Prop) (gens : Array GenState) (drawn : Drawn) (os : OsState) : Prop := ∀ {h : Heap} {t : Nat} {m : Str → Option Value} {news news' : List (Addr × Obj)} {q C dx : Addr} {sl : Array (Option Value)} {es es' : List DictEntry} {n n' : Nat} {name : Str} {v : Value} {Q : Unit → Shared → Prop},
  Fr g L h m → News g L h news → (q, (⟨.ref C, some dx, .plain, sl⟩ : Obj)) ∈ news → (dx, dictOf es n) ∈ news → findIn K (.ref C) "__setattr__" = some (some (.builtin "object.__setattr__")) → plainOver K C = true → takerIn K C name = some none → hasDictIn K C = true → (getL name es).isSome = true →
  (putL name (PyData.keyHash w.params name) (.str name (t + 1)) v es, putN name es n) = (es', n') → Upd dx (dictOf es n) (dictOf es' n') news news' → es'.length ≤ 1000 →
  (∀ h' t', Fr g L h' m → News g L h' news' → Q () ⟨h', gens, drawn, t', os⟩) → wpAny (model prog w) A (setAttr (.ref q) name v) Q E ⟨h, gens, drawn, t, os⟩
theorem rdIn {prog : Program} {w : World} {A : Around} {env : Env} {K : Frag} {g h : Heap} {L a : Addr} {m : Str → Option Value} {E : Value → Shared → Prop} {Q : Flow → Shared → Prop} {body : List Stmt} {gens : Array GenState} {drawn : Drawn} {t : Nat} {os : OsState} {cn : Str} {cs : Scope} {ccd : Value} {cl : List (Str × Addr)}
    (F : Fr g L h m) (X : K.In g) (e : env = envX cn cs L a ccd cl) (hk : cs.kind = .function) (k : RdF prog w A env K g L E gens drawn os → SeF prog w A K g L E gens drawn os → wpAny (model prog w) A (execs body env) Q E ⟨h, gens, drawn, t, os⟩) : wpAny (model prog w) A (execs body env) Q E ⟨h, gens, drawn, t, os⟩ := by
  subst e
  exact k (fun F N hv m1 m2 c1 c2 c3 c4 hg hd k kx kd => Attribute_Name_ (nameX_L F hv (get_own F X (InstAt.of_news N m1 m2) c1 c2 c3 c4 hg hd k) hk kx kd))
    (fun F N m1 m2 c1 c2 c3 c4 hg e U hl k => set_dict F X N (InstAt.of_news N m1 m2) rfl c1 c2 c3 c4 hg e U hl fun h' F' N' => k h' _ F' N')
theorem csn {M : Model} {A : Around} {env : Env} {E : Value → Shared → Prop} {x : Str} {kk : Nat} {pos : Pos} {Q : Value → Shared → Prop} {h : Heap} {gens : Array GenState} {drawn : Drawn} {t : Nat} {os : OsState} (k : Q (.str x t) ⟨h, gens, drawn, t + 1, os⟩) : wpAny M A (eval (.Constant (.str x) kk pos) env) Q E ⟨h, gens, drawn, t, os⟩ := Constant_str k
theorem cin {M : Model} {A : Around} {env : Env} {E : Value → Shared → Prop} {x : Int} {kk : Nat} {pos : Pos} {Q : Value → Shared → Prop} {h : Heap} {gens : Array GenState} {drawn : Drawn} {t : Nat} {os : OsState} (k : Q (.int x t) ⟨h, gens, drawn, t + 1, os⟩) : wpAny M A (eval (.Constant (.int x) kk pos) env) Q E ⟨h, gens, drawn, t, os⟩ := wpAny_Constant_int k
theorem while_ {prog : Program} {w : World} {A : Around} {env : Env} {test : Expr} {body orelse : List Stmt} {pos : Pos} {Q : Flow → Shared → Prop} {s : Shared} (I : Nat → Shared → Prop)
    (turn : ∀ n s, I n s →
      wpAny (model prog w) A (isTrue test env (eval test env)) (fun b s₂ =>
        if b then wpAny (model prog w) A (execs body env) (fun f s₃ => match f with
            | .next | .cont => ∃ m, m < n ∧ I m s₃
            | .brk => Q .next s₃
            | .ret v => Q (.ret v) s₃) noE s₂
        else wpAny (model prog w) A (execs orelse env) Q noE s₂) noE s)
    (n : Nat) (h : I n s) : wpAny (model prog w) A (exec (.While test body orelse pos) env) Q noE s := by
  refine wpAny_While (codeAny_whileLoop I (fun n s hI => wpAny_mono (turn n s hI) (fun b s₂ hb => ?_) fun _ _ x => x.elim) n h)
  cases b with
  | true => exact wpAny_mono hb (fun f s₃ hf => by cases f <;> exact hf) fun _ _ x => x.elim
  | false => exact wpAny_mono hb (fun f s₃ hf => hf) fun _ _ x => x.elim

theorem item_list {prog : Program} {w : World} {A : Around} {E : Value → Shared → Prop} {s : Shared} {value slice : Expr} {l : Addr} {items : Array Value} {k : Int} {u : Tok} {v : Value} {Q : Value → Shared → Prop}
    (hl : s.heap.IsList l items) (h0 : 0 ≤ k) (hk : k < 2 ^ 63) (hx : items[k.toNat]? = some v) (h : Q v s)
    (hs : subscripted slice false (.ref l) (.int k u) = operate [.ref l, .int k u] (getItem (.ref l) (.int k u))) :
    wpAny (model prog w) A (subscriptTail value slice (.ref l) (.int k u)) Q E s :=
  tail_any hl.typeIs slot_list_getitem.lookup (wpAny_getItem_list hl h0 hk hx h) hs

theorem same_name {x : Str} {a b : Option Value} {m : Str → Option Value} : (fun y => if y = x then a else if y = x then b else m y) = fun y => if y = x then a else m y := by
  funext y; split <;> rfl

noncomputable abbrev Kept (W : List Addr) (h h' : Heap) : Prop := ∀ b o, b ∉ W → h.get? b = some o → h'.get? b = some o

theorem enterGc {prog : Program} {w : World} {A : Around} {R : Result → Shared → Prop} {s : Shared} {K : Frag} {f : Addr} {args : List Value} {kw : List (Str × Value)} {binds : List (Str × Value)} {h₀ : Heap} (own : List (Addr × Obj))
    {name qual : Str} {params : Arguments} {body : List Stmt} {scope : Scope} {dV kV doc pm cdv ct oc : Value} {an od : Option Addr} {osl : Array (Option Value)}
    {p : Program} {loose : List Str} {mean : ExcName → Option Value} {mg mb : Str → Option Value}
    (X : K.In h₀) (T : Top p loose mean mg mb h₀) (st : Stays h₀ s.heap) (hown : ∀ q ∈ own, s.heap.get? q.1 = some q.2 ∧ h₀.get? q.1 = none)
    (ho : K.lookup f = some ⟨oc, od, .func (fnOf name qual params body scope dV kV doc pm an cdv ct), osl⟩) (hcd : codeIn K cdv qual = true)
    (hroom : A.depth < recursionLimit)
    (hbind : BindsTo s (fnOf name qual params body scope dV kV doc pm an cdv ct) ⟨args, kw⟩ binds) (hloc : ∀ y ∈ binds, scope.names.lookup y.1 = some .local)
    (h : ∀ g h₁, K.In g → Top p loose mean mg mb g → Stays h₀ g → (∀ h', Stays g h' → Kept (own.map (·.1)) s.heap h') → g.objs.size = s.heap.objs.size →
      Fr g s.heap.objs.size h₁ (fun y => binds.reverse.lookup y) → News g s.heap.objs.size h₁ own →
      wpAny (model prog w) (A.deeper (envOf qual scope s.heap.objs.size f cdv)) (execs body (envOf qual scope s.heap.objs.size f cdv))
        (fun fl s' => R (.ok (.ret (match fl with | .ret v => v | _ => .none))) s') noE { s with heap := h₁, toks := s.toks + binds.length })
    (hcell : ∀ x ∈ scope.names, x.2 ≠ .cell) (hco : scope.isCoroutine = false) (hgen : scope.isGenerator = false) (hk : scope.kind = .function) :
    codeAny (model prog w) A (.call (.ref f) ⟨args, kw⟩) R s := by
  have st' : Stays h₀ (hideAll s.heap (own.map (·.1))) := fun b o e => hideAll_get _ (st b o e) fun hb => by
    refine hideL ?_; intro gg3
    obtain ⟨q, hq, rfl⟩ := List.mem_map.mp hb
    k_unfold
    rw [(hown q hq).2] at e; cases e
  refine codeAny_call_def (fd := fnOf name qual params body scope dV kV doc pm an cdv ct) (body := body) (binds := binds) hroom (X.keeps st _ _ ho) rfl (T.nolimit.keeps st) (codeRec_of (X.keeps st) hcd) rfl hbind hcell hloc (fun h₁ hns hk₁ => ?_) hco hgen hk
  refine wpAny_mono (h (hideAll s.heap (own.map (·.1))) h₁ (X.keeps st') (T.keeps st') st' (fun h' k b o hb e => k b o (hideAll_get _ e hb)) (hideAll_size _ _)
    ⟨hns, fun b o e => hk₁ b o (of_hideAll _ e), Nat.le_of_eq (hideAll_size _ _)⟩
    (fun q hq => ⟨hk₁ _ _ (hown q hq).1, Nat.ne_of_lt (Heap.lt_size (hown q hq).1), hideAll_none _ (List.mem_map_of_mem hq)⟩)) (fun _ _ x => x) fun _ _ x => x.elim

theorem enterG {prog : Program} {w : World} {A : Around} {Q : Value → Shared → Prop} {s : Shared} {K : Frag} {f : Addr} {args : List Value} {kw : List (Str × Value)} {binds : List (Str × Value)} {h₀ : Heap} (own : List (Addr × Obj))
    {name qual : Str} {params : Arguments} {body : List Stmt} {scope : Scope} {dV kV doc pm cdv ct oc : Value} {an od : Option Addr} {osl : Array (Option Value)}
    {p : Program} {loose : List Str} {mean : ExcName → Option Value} {mg mb : Str → Option Value}
    (X : K.In h₀) (T : Top p loose mean mg mb h₀) (st : Stays h₀ s.heap) (hown : ∀ q ∈ own, s.heap.get? q.1 = some q.2 ∧ h₀.get? q.1 = none)
    (ho : K.lookup f = some ⟨oc, od, .func (fnOf name qual params body scope dV kV doc pm an cdv ct), osl⟩) (hcd : codeIn K cdv qual = true)
    (hroom : A.depth < recursionLimit)
    (hbind : BindsTo s (fnOf name qual params body scope dV kV doc pm an cdv ct) ⟨args, kw⟩ binds) (hloc : ∀ y ∈ binds, scope.names.lookup y.1 = some .local)
    (h : ∀ g h₁, K.In g → Top p loose mean mg mb g → Stays h₀ g → (∀ h', Stays g h' → Kept (own.map (·.1)) s.heap h') → g.objs.size = s.heap.objs.size →
      Fr g s.heap.objs.size h₁ (fun y => binds.reverse.lookup y) → News g s.heap.objs.size h₁ own →
      wpAny (model prog w) (A.deeper (envOf qual scope s.heap.objs.size f cdv)) (execs body (envOf qual scope s.heap.objs.size f cdv))
        (fun fl s' => Q (match fl with | .ret v => v | _ => .none) s') noE { s with heap := h₁, toks := s.toks + binds.length })
    (hcell : ∀ x ∈ scope.names, x.2 ≠ .cell) (hco : scope.isCoroutine = false) (hgen : scope.isGenerator = false) (hk : scope.kind = .function) :
    wpAny (model prog w) A (call (.ref f) args kw) Q noE s :=
  wpAny_call (enterGc own X T st hown ho hcd hroom hbind hloc h hcell hco hgen hk)

theorem wp_peekS {α : Type} {K : Frag} {M : Model} {A : Around} {E : Value → Shared → Prop} {Q : α → Shared → Prop} {s : Shared} {o : Obj} (X : K.In s.heap) :
    ∀ (t : Sem α) (g : Addr → Sem α), peekA K ⟨M.prog, M.w.params⟩ t = some (o, g) → wpAny M A (g s.heap.objs.size) Q E { s with heap := s.heap.push o } → wpAny M A t Q E s := by
  intro t
  induction t with
  | rule _ k ih => intro g e hg Γ p hΓ; exact ih () g e hg Γ p hΓ
  | point _ k ih => intro g e hg Γ p hΓ; exact ih () g e hg Γ p hΓ
  | ask k ih => intro g e hg Γ p hΓ; exact ih _ g e hg Γ p hΓ
  | load a _ k ih =>
    intro g e hg Γ p hΓ
    simp only [peekA] at e
    split at e
    · rename_i ob ho; exact ⟨ob, X _ _ ho, ih ob g e hg Γ p hΓ⟩
    · cases e
  | alloc ob k _ =>
    intro g e hg
    refine hideL ?_; intro gg4
    obtain ⟨e1, e2⟩ := Prod.mk.inj (Option.some.inj (e : some (ob, k) = some (o, g)))
    k_unfold
    subst e1; subst e2
    exact wpAny_bind (m := alloc ob) (f := k) (wpAny_alloc hg)
  | _ => intro g e; cases e

theorem enterStar {prog : Program} {w : World} {A : Around} {Q : Value → Shared → Prop} {s : Shared} {K : Frag} {f : Addr} {args vs : List Value} {binds : Addr → Addr → List (Str × Value)}
    {name qual : Str} {params : Arguments} {body : List Stmt} {scope : Scope} {dV kV doc pm cdv ct oc : Value} {an od : Option Addr} {osl : Array (Option Value)} {g₁ : Addr → Sem (List (Str × Value))} {g₂ : Addr → Addr → Sem (List (Str × Value))}
    (X : K.In s.heap) (hlim : s.heap.NoLimit)
    (ho : K.lookup f = some ⟨oc, od, .func (fnOf name qual params body scope dV kV doc pm an cdv ct), osl⟩) (hcd : codeIn K cdv qual = true)
    (hroom : A.depth < recursionLimit)
    (hp : peekA K ⟨prog, w.params⟩ (bindArgs (fnOf name qual params body scope dV kV doc pm an cdv ct) ⟨args, []⟩) = some (({ cls := .type "tuple", data := .seq vs.toArray } : Obj), g₁))
    (hp₂ : ∀ C, peekA K ⟨prog, w.params⟩ (g₁ C) = some (dictOf [] 0, g₂ C))
    (hk₂ : ∀ C D, g₂ C D = pure (binds C D))
    (hloc : ∀ C D, ∀ y ∈ binds C D, scope.names.lookup y.1 = some .local)
    (h : ∀ h₁ C D, C < D → s.heap.objs.size ≤ C → Fr s.heap (s.heap.objs.size + 2) h₁ (fun y => (binds C D).reverse.lookup y) → News s.heap (s.heap.objs.size + 2) h₁ [(D, dictOf [] 0), (C, { cls := .type "tuple", data := .seq vs.toArray })] →
      wpAny (model prog w) (A.deeper (envOf qual scope (s.heap.objs.size + 2) f cdv)) (execs body (envOf qual scope (s.heap.objs.size + 2) f cdv))
        (fun fl s' => Q (match fl with | .ret v => v | _ => .none) s') noE { s with heap := h₁, toks := s.toks + (binds C D).length })
    (hcell : ∀ x ∈ scope.names, x.2 ≠ .cell) (hco : scope.isCoroutine = false) (hgen : scope.isGenerator = false) (hk : scope.kind = .function) :
    wpAny (model prog w) A (call (.ref f) args) Q noE s := by
  refine hideL ?_; intro gg5
  obtain ⟨hh, gg, dd, tt, oo⟩ := s
  k_unfold
  refine wpAny_call (codeAny_call_function (fd := fnOf name qual params body scope dV kV doc pm an cdv ct) (body := body) hroom (X _ _ ho) rfl hco hgen rfl (codeRec_of X hcd) ?_)
  refine wp_peekS X _ g₁ hp ?_
  refine wp_peekS (X.keeps fun b o e => Heap.get?_push_of_some _ e) _ _ (hp₂ _) ?_
  rw [hk₂]
  have z1 : (hh.push ({ cls := .type "tuple", data := .seq vs.toArray } : Obj)).objs.size = hh.objs.size + 1 := Heap.size_push _ _
  have z2 : ((hh.push ({ cls := .type "tuple", data := .seq vs.toArray } : Obj)).push (dictOf [] 0)).objs.size = hh.objs.size + 2 := by rw [Heap.size_push, z1]
  refine wpAny_pure (wpAny_newFunctionEnv hcell (hloc _ _) (fun h₁ hns hsb => ?_) hk)
  have hk₁ : ∀ b o, ((hh.push ({ cls := .type "tuple", data := .seq vs.toArray } : Obj)).push (dictOf [] 0)).get? b = some o → h₁.get? b = some o := fun b o e => hsb.extBut b o (Nat.ne_of_lt (Heap.lt_size e)) (Heap.get?_push_of_some _ e)
  have hk₀ : Stays hh h₁ := fun b o e => hk₁ b o (Heap.get?_push_of_some _ (Heap.get?_push_of_some _ e))
  refine ⟨hlim.keeps hk₀, ?_⟩
  dsimp only at hns ⊢
  rw [z2, z1] at hns
  rw [z1, z2]
  have gC : ((hh.push ({ cls := .type "tuple", data := .seq vs.toArray } : Obj)).push (dictOf [] 0)).get? hh.objs.size = some { cls := .type "tuple", data := .seq vs.toArray } := Heap.get?_push_of_some _ (Heap.get?_push_size _ rfl)
  have gD : ((hh.push ({ cls := .type "tuple", data := .seq vs.toArray } : Obj)).push (dictOf [] 0)).get? (hh.objs.size + 1) = some (dictOf [] 0) := by rw [← z1]; exact Heap.get?_push_size _ rfl
  have hn : ∀ b, hh.objs.size ≤ b → hh.get? b = none := fun b hb => by
    cases e : hh.get? b with
    | none => rfl
    | some o => exact absurd (Heap.lt_size e) (Nat.not_lt.mpr hb)
  refine codeAny_func (wpAny_mono (h h₁ hh.objs.size (hh.objs.size + 1) (Nat.lt_succ_self _) (Nat.le_refl _) ⟨hns, hk₀, (by (first | exact (ch0 0 2 (Eq.refl true)) | omega) : hh.objs.size ≤ hh.objs.size + 2)⟩ ?_) (fun _ _ x => x) fun _ _ x => x.elim)
  intro q hq
  rcases List.mem_cons.mp hq with rfl | hq
  · exact ⟨hk₁ _ _ gD, (by (first | exact (Nat.ne_of_lt (ch0 2 2 (Eq.refl true))) | omega) : hh.objs.size + 1 ≠ hh.objs.size + 2), hn _ (Nat.le_succ _)⟩
  · rcases List.mem_cons.mp hq with rfl | hq
    · exact ⟨hk₁ _ _ gC, (by (first | exact (Nat.ne_of_lt (ch0 1 2 (Eq.refl true))) | omega) : hh.objs.size ≠ hh.objs.size + 2), hn _ (Nat.le_refl _)⟩
    · cases hq
end TB0
-- words of the walk
theorem words : True := by
  (k_with "en" => (refine envA ?_; intro env' A' gg dd oo; (try (k_dflt (refine' nmIn ?F ?e ?k ?_; (case F => k_asm); (case e => exact rfl); (case k => exact rfl)); intro NM ST)); (try (k_dflt (refine' rdIn ?F ?X ?e ?k ?_; (case F => k_asm); (case X => k_asm); (case e => exact rfl); (case k => exact rfl)); intro RD SE))))
  (k_with "rf" => ((fail_if_success (fail_if_success k_fold)); refine foldQ ?_; intro qk))
  (k_with "rq" => ((with_reducible show ite _ _ _); first | with_reducible refine ifF Bool.false_ne_true ?_ | with_reducible refine ifT rfl ?_ | with_reducible refine ifT ‹_› ?_ | with_reducible refine ifF ‹_› ?_ | refine ifT (by first | decide +kernel | with_unfolding_all exact rfl) ?_ | refine ifF (by first | decide +kernel | with_unfolding_all exact Bool.false_ne_true) ?_))
  (k_with "rd" => (first | k_extra "rq" | ((with_reducible show ite _ _ _); first | refine ifT ‹_› ?_ | refine ifF ‹_› ?_)))
  (k_with "pr" => ((with_reducible show PySem.wpAny _ _ (PySem.eval (PySem.Expr.Attribute (PySem.Expr.Name _ _) _ _) _) _ _ _); rename RdF _ _ _ _ _ _ _ _ _ _ _ => zRD; k_dflt (refine' zRD ?F ?N ?v ?i ?d ?c1 ?c2 ?c3 ?c4 ?g ?hd ?_ ?a ?b; (case F => k_asm); (case N => k_asm); (case a => rfl); (case b => rfl); (case v => rfl); (case i => k_mem); (case d => k_mem); (case c1 => k_is); (case c2 => k_is); (case c3 => k_is); (case c4 => k_is); (case g => k_get); (case hd => k_handed); k_whole)))
  (k_with "ps" => ((with_reducible show PySem.wpAny _ _ (PySem.setAttr (PySem.Value.ref _) _ _) _ _ _); rename SeF _ _ _ _ _ _ _ _ _ _ => zSE; k_dflt (refine' zSE ?F ?N ?i ?d ?c1 ?c2 ?c3 ?c4 ?g ?e ?U ?l ?_; (case F => k_asm); (case N => k_asm); (case i => k_mem); (case d => k_mem); (case c1 => k_is); (case c2 => k_is); (case c3 => k_is); (case c4 => k_is); (case g => k_get); (case e => first | with_reducible exact put_token | with_reducible exact put_state | with_reducible exact put_split | with_reducible exact put_comm | k_put); (case U => k_upd); (case l => exact Nat.le_of_ble_eq_true rfl); k_whole); intro h' t' F' N'; (try k_sweep)))
  (k_with "pn" => ((with_reducible show PySem.wpAny _ _ (PySem.eval (PySem.Expr.Name _ _) _) _ _ _); rename NmF _ _ _ _ _ _ => zNM; k_dflt (refine' zNM ?F ?v ?_ ?a ?b; (case F => k_asm); (case a => rfl); (case b => rfl); (case v => rfl); k_whole)))
  (k_with "pt" => ((with_reducible show PySem.wpAny _ _ (PySem.storeName _ _ _) _ _ _); rename StF _ _ _ _ _ _ _ _ _ => zST; k_dflt (refine' zST ?F ?N ?_ ?a; (case F => k_asm); (case N => k_asm); (case a => rfl); k_whole); intro h' t' F' N'; (try k_sweep)))
  (k_with "pe" => ((with_reducible (first | (refine' seq_nx ?h ?_; (case h => assumption)) | (refine' seq_ret ?h ?_; (case h => assumption)) | (refine' seq_brk ?h ?_; (case h => assumption)) | (refine' seq_cont ?h ?_; (case h => assumption)))); (try dsimp only)))
  (k_with "pc" => ((with_reducible show PySem.wpAny _ _ (PySem.callWith _ _ (_, _ :: _).2 (PySem.backTo _ (PySem.starEach (_ :: _) _)) _) _ _ _); refine PyProof.Rows.callWith_method1 ?_))
  (k_with "ne" => (refine PySem.W.neN ?_; (try dsimp only); first | with_reducible assumption | exact Ne.symm ‹_› | exact Nat.ne_of_lt ‹_› | exact Nat.ne_of_gt ‹_›))
  (k_with "ge" => (with_reducible show PySem.wpAny _ _ (PySem.eval _ _) _ _ _))
  (k_with "gx" => (first | with_reducible show PySem.wpAny _ _ (PySem.execs _ _) _ _ _ | with_reducible show PySem.wpAny _ _ (PySem.exec _ _) _ _ _))
  (k_with "v0" => (k_unfold; (try dsimp only)))
  (k_with "ve" => (first | k_extra "pr" | (with_reducible (first | refine csn ?_ | refine cin ?_)) | k_extra "pn" | walk1 | (dsimp only; walk1)))
  (k_with "vn" => (first | k_extra "pe" | walk1 | (dsimp only; walk1)))
  (k_with "vo" => (first | k_extra "ps" | k_extra "pt" | k_extra "pc" | walk1 | (dsimp only; walk1)))
  (k_with "vx" => (first | k_extra "rf" | with_reducible refine elast ?_ | with_reducible refine econs fun _ _ => ?_ | with_reducible refine PySem.wpAny_If ?_ | walk1 | (dsimp only; walk1)))
  (k_with "w1" => (first | (k_extra "v0") | ((k_extra "ge"); (k_extra "ve")) | ((k_extra "gx"); (k_extra "vx"))))
  (k_with "wn" => (k_end; (k_extra "vn")))
  (k_with "wo" => ((fail_if_success k_end); (k_extra "vo")))
  (k_with "wb" => (first | (k_extra "w1") | (k_extra "wn") | (k_extra "rq")))
  (k_with "wd" => (first | (k_extra "w1") | (k_extra "wn") | (k_extra "rd")))
  (k_with "vl" => (first | k_extra "ps" | k_extra "pt" | k_extra "pc" | ((with_reducible show PySem.wpAny _ _ (PyProof.Rows.subscriptTail _ (PySem.Expr.Slice (some _) (some _) none _) (PySem.Value.str _ _) (PySem.Value.ref _)) _ _ _); (with_reducible rename Fr _ _ _ _ => zF); (with_reducible rename News _ _ _ _ => zN); (refine PyProof.Rows.slice_strN_ss (hsz := ?hsz) (s := ⟨_, _, _, _, _⟩) zF zN ?_); (case hsz => first | with_reducible assumption | size_fits); intro _ _ _ _ _) | ((with_reducible show PySem.wpAny _ _ (PyProof.Rows.subscriptTail _ (PySem.Expr.Slice none (some _) none _) (PySem.Value.str _ _) (PySem.Value.ref _)) _ _ _); (with_reducible rename Fr _ _ _ _ => zF); (with_reducible rename News _ _ _ _ => zN); (refine PyProof.Rows.slice_strN_ns (hsz := ?hsz) (s := ⟨_, _, _, _, _⟩) zF zN ?_); (case hsz => first | with_reducible assumption | size_fits); intro _ _ _ _ _) | ((with_reducible show PySem.wpAny _ _ (PyProof.Rows.subscriptTail _ (PySem.Expr.Slice (some _) none none _) (PySem.Value.str _ _) (PySem.Value.ref _)) _ _ _); (with_reducible rename Fr _ _ _ _ => zF); (with_reducible rename News _ _ _ _ => zN); (refine PyProof.Rows.slice_strN_sn (hsz := ?hsz) (s := ⟨_, _, _, _, _⟩) zF zN ?_); (case hsz => first | with_reducible assumption | size_fits); intro _ _ _ _ _) | ((with_reducible show PySem.wpAny _ _ (PyProof.Rows.subscriptTail _ (PySem.Expr.Slice _ _ none _) (PySem.Value.ref _) (PySem.Value.ref _)) _ _ _); refine PyProof.Rows.slice_list (by assumption) (by assumption) (by first | assumption | exact PyProof.Rows.Fr.lst (by assumption) (by assumption) | exact PyProof.Rows.News.isList (by assumption) (by first | exact .head _ | exact .tail _ (.head _) | exact .tail _ (.tail _ (.head _)) | exact .tail _ (.tail _ (.tail _ (.head _))))) (by first | exact .none | exact .int _ _) (by first | exact .none | exact .int _ _) ?_; intro _ _ _) | ((with_reducible show PySem.wpAny _ _ (PySem.call (PySem.Value.builtin "len") [PySem.Value.ref _] _) _ _ _); refine PyProof.Rows.len_list (by first | with_reducible assumption | exact PyProof.Rows.Fr.lst (by with_reducible assumption) (by with_reducible assumption) | exact PyProof.Rows.News.isList (by with_reducible assumption) (by k_mem)) (by size_fits) ?_) | walk1 | (dsimp only; walk1)))
  (k_with "wl" => ((fail_if_success k_end); (k_extra "vl")))
  (k_with "lW" => (fail_if_success (with_reducible show PySem.wpAny _ _ (PySem.exec (PySem.Stmt.While _ _ _ _) _) _ _ _)))
  (k_with "lF" => (fail_if_success (with_reducible show PySem.wpAny _ _ (PySem.exec (PySem.Stmt.For _ _ _ _ _) _) _ _ _)))
  (k_with "lT" => (fail_if_success (with_reducible show PySem.wpAny _ _ (PySem.exec (PySem.Stmt.Try _ _ _ _ _) _) _ _ _)))
  (k_with "lC" => (fail_if_success (with_reducible show PySem.wpAny _ _ (PySem.call (PySem.Value.ref _) _ _) _ _ _)))
  (k_with "lB" => (fail_if_success (with_reducible show PySem.wpAny _ _ (PySem.call (PySem.Value.builtin _) _ _) _ _ _)))
  (k_with "lTy" => (fail_if_success (with_reducible show PySem.wpAny _ _ (PySem.call (PySem.Value.type _) _ _) _ _ _)))
  (k_with "lS" => (fail_if_success (with_reducible show PySem.wpAny _ _ (PyProof.Rows.subscriptTail _ _ _ _) _ _ _)))
  (k_with "lE" => (fail_if_success (with_reducible show PySem.wpAny _ _ (PySem.compareOp _ _ _) _ _ _)))
  (k_with "lBi" => (fail_if_success (with_reducible show PySem.wpAny _ _ (PySem.binaryOp _ _ _) _ _ _)))
  (k_with "lTr" => (fail_if_success (with_reducible show PySem.wpAny _ _ (PySem.truthy (PySem.Value.ref _)) _ _ _)))
  (k_with "lL" => (fail_if_success (with_reducible show PySem.wpAny _ _ (PySem.eval (PySem.Expr.ListComp _ _ _ _) _) _ _ _)))
  (k_with "lQ" => (fail_if_success (with_reducible show ite _ _ _)))
  (k_with "lIt" => (fail_if_success (with_reducible show PySem.wpAny _ _ (PySem.isTrue _ _ _) _ _ _)))
  (k_with "lEx" => (fail_if_success (with_reducible show Exists _)))
  (k_with "lX" => (fail_if_success (with_reducible show PySem.wpAny _ _ (PySem.exec _ _) _ _ _)))
  (k_with "lEv" => (fail_if_success (with_reducible show PySem.wpAny _ _ (PySem.eval _ _) _ _ _)))
  (k_with "lGm" => (fail_if_success (with_reducible show PySem.wpAny _ _ (PySem.getMethod _ _ _) _ _ _)))
  (k_with "lGa" => (fail_if_success (with_reducible show PySem.wpAny _ _ (PySem.getAttr _ _ _) _ _ _)))
  (k_with "lAn" => (fail_if_success (with_reducible show And _ _)))
  (k_with "lAd" => (fail_if_success (with_reducible show PySem.wpAny _ _ (PySem.binaryOp PySem.Operator.Add (PySem.Value.ref _) _) _ _ _)))
  (k_with "lMu" => (fail_if_success (with_reducible show PySem.wpAny _ _ (PySem.binaryOp PySem.Operator.Mult _ _) _ _ _)))
  (k_with "lOr" => (fail_if_success (with_reducible show Or _ _)))
  (k_with "lRa" => (fail_if_success (with_reducible show PySem.wpAny _ _ (PySem.exec (PySem.Stmt.Raise _ _ _) _) _ _ _)))
  (k_with "lIf" => (fail_if_success (with_reducible show PySem.wpAny _ _ (PySem.execs (PySem.Stmt.Assign _ (PySem.Expr.IfExp _ _ _ _) _ :: _) _) _ _ _)))
  (k_with "lTs" => (fail_if_success (with_reducible show PySem.wpAny _ _ (PySem.truthy (PySem.Value.str _ _)) _ _ _)))
  (k_with "lSi" => (fail_if_success (with_reducible show PySem.wpAny _ _ (PySem.setItem (PySem.Value.ref _) _ _) _ _ _)))
  (k_with "lSn" => (fail_if_success (with_reducible show PySem.wpAny _ _ (PySem.storeName _ _ _) _ _ _)))
  (k_with "lX8" => (fail_if_success (with_reducible show PySem.wpAny _ _ (PySem.exec (PySem.Stmt.Assign [PySem.Expr.Attribute _ (PySem.Str.ofString "whitespace") _] _ _) _) _ _ _)))
  (k_with "lSa" => (fail_if_success (with_reducible show PySem.wpAny _ _ (PySem.setAttr (PySem.Value.ref _) _ _) _ _ _)))
  (k_with "lRe" => (fail_if_success (with_reducible show PySem.wpAny _ _ (PySem.exec (PySem.Stmt.Return _ _) _) _ _ _)))
  trivial
local macro_rules | `(tactic| k_ne) => `(tactic| k_extra "ne")
section TB2
open PySem PySem.W PyProof.Rows PySem.Calls PySem.Spec Builtin Builtin.ObjectAttr Builtin.Getset_descriptor
set_option maxHeartbeats 4000000
section
variable {prog : Program} {w : World} {A : Around} {K : Frag} {C : Addr} {R : Result → Shared → Prop} {h : Heap} {g : Array GenState} {d : Drawn} {t : Nat} {os : OsState}

omit prog w in
theorem wp_iteF {α : Type} {M : Model} {E : Value → Shared → Prop} {Q : α → Shared → Prop} {s : Shared} {b : Bool} {c₁ c₂ : Sem α} (e : b = false) (h : wpAny M A c₂ Q E s) : wpAny M A (if b = true then c₁ else c₂) Q E s := by
  subst e; exact h
theorem madeHere_ {b : Value} {n : String} (base : Looks (model prog w) h (Bind.staticBase (.ref C)) b) (made : Looks (model prog w) h (Bind.madeBy b) (some n)) : Looks (model prog w) h (Bind.madeHere n (.ref C)) () :=
  base.andThen (made.andThen (Looks.of_pure (by simp only [Option.map_some, bne_self_eq_false, Bool.false_eq_true, if_false])))
theorem newO {oc : Value} {od : Option Addr} {cd : ClassData} {sl : Array (Option Value)} {b : Value} (hC : h.get? C = some ⟨oc, od, .cls cd, sl⟩) (e1 : cd.abstract = false) (e2 : cd.hasDel = false)
    (typ : Looks (model prog w) h (isInstance (.ref C) (.type "type")) true) (top : Looks (model prog w) h (isSubtype (.ref C) (.type "object")) true)
    (base : Looks (model prog w) h (Bind.staticBase (.ref C)) b) (made : Looks (model prog w) h (Bind.madeBy b) (some "object.__new__"))
    (hq : R (.ok (.ret (.ref (h.objs.size + 1)))) ⟨(h.push emptyDict).push (instObj C h.objs.size), g, d, t, os⟩) :
    codeAny (model prog w) A (.call (.builtin "object.__new__") ⟨[.ref C], []⟩) R ⟨h, g, d, t, os⟩ := by
  have F := PySem.F.objNew
  refine codeAny_call_builtin_code (Code.quiet_builtin _ F.quiet) ?_
  simp only [checkBuiltinCall, F.kind, F.split, F.row]
  have here := madeHere_ base made
  have args : Bind.checkArgs "object.__new__" ⟨.hand, "object.__new__", "__new__", .cls, []⟩ ⟨[.ref C], []⟩ = pure () := by kernel_rfl
  rw [args]
  repeat (first | (with_reducible refine wp_iteF ?e ?_; (case e => first | with_reducible exact bne_self_eq_false _ | rfl)) | lk)
  refine codeAny_builtin F.entry ?_
  unfold Builtin.«object.__new__»
  have fin : ∀ A', wpAny (model prog w) A' (do
      let d ← if typeHasDict (.ref C) then some <$> alloc { cls := .type "dict", data := .dict #[] } else pure none
      ret (← newObj (.ref C) .plain d)) (fun fin s' => match fin with | .done f => R (.ok f) s' | .again c' => c'.quiet = true ∧ codeAny (model prog w) A c' R s') (fun e s' => R (.error e) s') ⟨h, g, d, t, os⟩ := by
    intro A'
    show wpAny _ _ ((alloc emptyDict >>= fun x => pure (some x)) >>= _) _ _ _
    refine wpAny_bind (wpAny_bind (wpAny_alloc (wpAny_pure (wpAny_bind ?_))))
    show wpAny _ _ (newObjAsIs _ _ _) _ _ _
    unfold newObjAsIs classHasDel
    refine wpAny_bind (wpAny_alloc (wpAny_bind (wpAny_bind (wpAny_load (Heap.get?_push_of_some _ (Heap.get?_push_of_some _ hC)) (wpAny_pure ?_)))))
    rw [e2]
    refine wpAny_pure (wpAny_pure ?_)
    show R _ _
    rw [Heap.size_push]
    exact hq
  repeat (first | with_reducible refine wp_iteF e1 ?_ | (with_reducible refine wp_iteF ?e ?_; (case e => first | with_reducible exact bne_self_eq_false _ | rfl)) | exact fin _ | lk)

theorem makeNew {oc : Value} {od : Option Addr} {cd : ClassData} {sl : Array (Option Value)} {rest : List Value} {kw : List (Str × Value)} (hC : h.get? C = some ⟨oc, od, .cls cd, sl⟩) (e4 : cd.mro.isEmpty = false)
    (call : Looks (model prog w) h (specialOf (.ref C) "__call__") (some (.builtin "type.__call__"))) (typ : Looks (model prog w) h (isInstance (.ref C) (.type "type")) true)
    (made : Looks (model prog w) h (Bind.madeBy (.ref C)) none)
    (self : Looks (model prog w) h (isSubtype (.ref C) (.ref C)) true) {fN fI : Addr} (hi : Looks (model prog w) h (typeLookup (.ref C) "__init__") (some (.ref fI)))
    (hb : ∀ self, Looks (model prog w) h (bindSpecial (.ref fI) self) (.ref fI, [self]))
    (hget : ∀ (A' : Around) (Q : Value → Shared → Prop) (E : Value → Shared → Prop), Q (.ref fN) ⟨h, g, d, t + 1, os⟩ → wpAny (model prog w) A' (getAttr (.ref C) "__new__") Q E ⟨h, g, d, t, os⟩)
    (hcall : wpAny (model prog w) (A.under (.builtin "type.__call__" ⟨.ref C :: rest, kw⟩)) (PySem.call (.ref fN) (.ref C :: rest) kw)
      (fun v s₂ => ∃ x dx h₂ t₂, v = .ref x ∧ s₂ = ⟨h₂, g, d, t₂, os⟩ ∧ h₂.get? x = some (instObj C dx) ∧ Stays h h₂ ∧
        codeAny (model prog w) (A.under (.builtin "type.__call__" ⟨.ref C :: rest, kw⟩)) (.call (.ref fI) ⟨.ref x :: rest, kw⟩) (InitBack x R) s₂) (fun e s' => R (.error e) s') ⟨h, g, d, t + 1, os⟩) :
    codeAny (model prog w) A (.call (.ref C) ⟨rest, kw⟩) R ⟨h, g, d, t, os⟩ := by
  refine codeAny_of_tree ?_
  show wpAny _ _ (callAny (.ref C) _) _ _ _
  refine nd_load hC ?_
  show wpAny _ _ (callAny.viaDunder (.ref C) _) _ _ _
  unfold callAny.viaDunder
  refine wpAny_bind (call.at ?_)
  (try dsimp only)
  rw [tc_bind]
  refine wpAny_bind (wpAny_pure (wpAny_bind (wpAny_pure ?_)))
  refine wpAny_pure (a := Fin.again (.call (.builtin "type.__call__") ⟨.ref C :: rest, kw⟩)) (And.intro rfl ?_)
  with_reducible refine codeAny_call_builtin_at (Code.quiet_builtin _ (by decide +kernel)) entry_typeCall ?_
  with_reducible refine check_slot tc_kind tc_split typ (tc_args _ _ _) ?_
  unfold Builtin.«type.__call__»
  have hm : Looks (model prog w) h (mroOf (.ref C)) cd.mro := ((Looks.ld (part := none) hC).andThen .now).andThen .now
  have hg := hget (A.under (.builtin "type.__call__" ⟨.ref C :: rest, kw⟩))
  clear hget
  (try dsimp only)
  revert hg
  generalize getAttr (Value.ref C) (Str.ofString "__new__") = gA
  intro hg
  repeat (first | with_reducible refine wp_iteF e4 ?_ | (with_reducible refine wp_iteF ?e ?_; (case e => first | with_reducible exact bne_self_eq_false _ | rfl)) | lk)
  refine hg _ _ ?_
  refine wpAny_bind (wpAny_holding (wpAny_mono hcall (fun v s₂ hv => ?_) fun _ _ x => x))
  refine hideL ?_; intro gg1
  obtain ⟨x, dx, h₂, t₂, rfl, rfl, hx, st, hv⟩ := hv
  k_unfold
  have t1 : Looks (model prog w) h₂ (typeOf (.ref x)) (.ref C) := (Looks.ld hx).andThen .now
  have s1 := self.keeps st
  have i1 := hi.keeps st
  have b1 := (hb (.ref x)).keeps st
  unfold isInstance callSpecial? specialOf
  repeat (first | with_reducible refine wpAny_call ?_ | lk)
  refine codeAny_mono hv fun r s' z => ?_
  rcases r with e | (v | _ | _ | _) <;> first | exact z | exact z.elim | skip
  obtain ⟨rfl, z⟩ := z
  exact wpAny_pure (wpAny_pure z)
end
end TB2
section TC2
open PySem PySem.W PyProof.Rows PySem.Calls
set_option maxHeartbeats 4000000


theorem ct_new {w : World} {A : Around} {Q : Value → Shared → Prop} {s : Shared} {p : Program} {loose : List Str} {mean : ExcName → Option Value} {mg mb : Str → Option Value}
    (X : (Mine.top.heap_1_39 w.params).In s.heap) (T : Top p loose mean mg mb s.heap) (hroom : A.depth + 5 < recursionLimit)
    (x : Str) (t : Tok)
    (ret : ∀ h' tk q dx, Stays s.heap h' → s.heap.objs.size ≤ dx → dx < q → h'.get? q = some (instObj 727 dx) → h'.get? dx = some emptyDict → Q (.ref q) { s with heap := h', toks := tk }) :
    wpAny (model PySem.Challenge.rw_aa0007_01.row.prog w) A (call (.ref 220) [.ref 727, .str x t]) Q noE s := by
  revert X; k_fill; intro X
  k_dflt (refine' enterStar (vs := [.str x t]) (binds := fun C D => [(Str.ofString "cls", Value.ref 727), (Str.ofString "args", Value.ref C), (Str.ofString "kwargs", Value.ref D)]) ?k1 ?k2 ?k6 ?k7 ?k8 ?p1 ?p2 ?p3 ?kB ?_ ?c5 ?c2 ?c3 ?c4; ((case k1 => assumption); (case k2 => exact Top.nolimit (by assumption)); (case k6 => k_is); (case k7 => k_is); (case k8 => (first | exact (ch1 6 0 1 0 hroom (Eq.refl true)) | omega)); (case p1 => exact rfl); (case p2 => exact fun _ => rfl); (case p3 => exact fun _ _ => rfl); (case c5 => decide); (case kB => exact fun _ _ => locs rfl); (case c2 => exact rfl); (case c3 => exact rfl); (case c4 => exact rfl)))
  intro h₁ C D hCD hC F N
  ((try k_extra "rf"); (repeat' (first | (k_extra "wb") | (k_extra "wo"))))
  have X1 : (Mine.top.heap_1_39 w.params).In h₁ := X.keeps F.keep
  refine wpAny_call ?_
  k_dflt (refine' newO (b := .type "object") (X1 727 _ ?a1) ?a2 ?a3 ?a4 ?a5 ?a6 ?a7 ?_; (case a1 => k_is); (case a2 => exact rfl); (case a3 => exact rfl); (case a4 => exact looks_instIn X1 (by k_is)); (case a5 => exact looks_subIn X1 (by k_is)); (case a6 => exact Looks.of_peek X1 (by kernel_rfl)); (case a7 => exact Looks.of_peek X1 (by kernel_rfl)))
  (try dsimp only)
  have hs1 : ∀ b o, h₁.get? b = some o → ((h₁.push emptyDict).push (instObj 727 h₁.objs.size)).get? b = some o := fun b o e => Heap.get?_push_of_some _ (Heap.get?_push_of_some _ e)
  refine ret _ _ _ h₁.objs.size (fun b o e => hs1 b o (F.keep b o e)) ?_ (Nat.lt_succ_self _) ?_ ?_
  · have z : D < h₁.objs.size := Heap.lt_size ((N _ (.head _)).1)
    (first | exact (ch3 0 0 1 0 1 0 0 0 hC hCD z (Eq.refl true)) | exact (ch2 1 0 0 0 1 0 hlt (Nat.le_of_eq this.symm) (Eq.refl true)) | exact (ch3 821 0 0 0 1 0 2 0 z0 hC hCD (Eq.refl true)) | exact (And.intro (lin0 1 [_] (.k 5) (.a (.v 0) (.a (.a (.a (.a (.a (.k 0) (.k 1)) (.k 1)) (.k 1)) (.k 1)) (.k 1))) rfl (Eq.refl true)) (lin1 1 [_] 0 (.a (.v 0) (.a (.a (.a (.a (.a (.k 0) (.k 1)) (.k 1)) (.k 1)) (.k 1)) (.k 1))) (.k 11) 1 (.v 0) (.k 6) (Nat.min_le_left _ _) rfl (Eq.refl true))) | exact (lin1 1 [_] 0 (.a (.a (.a (.k 0) (.k 1)) (.v 0)) (.k 1)) (.k 1000) 1 (.v 0) (.k 200) this rfl (Eq.refl true)) | exact (Nat.le_antisymm (lin1 2 [_, _] 0 (.v 0) (.v 1) 1 (.v 0) (.v 1) hc3 rfl (Eq.refl true)) (lin1 2 [_, _] 0 (.v 0) (.v 1) 1 (.v 0) (.v 1) this rfl (Eq.refl true))) | exact (lin2 2 [_, _] 0 (.a (.a (.v 0) (.v 1)) (.k 1)) (.k 900) 1 (.v 1) (.k 200) 1 (.v 0) (.k 1) h1 (Nat.le_of_eq this) rfl (Eq.refl true)) | exact (ch4 0 0 0 0 1 11 1000 0 0 0 (Nat.le_of_eq h1) h2 zi h3 (Eq.refl true)) | exact (ch4 0 0 0 0 1 11 1000 0 0 0 (Nat.le_of_eq h1) h2 zi z1000 (Eq.refl true)) | omega)
  · have z := Heap.get?_push_size (h₁.push emptyDict) (o := instObj 727 h₁.objs.size) rfl
    rwa [Heap.size_push] at z
  · exact Heap.get?_push_of_some _ (Heap.get?_push_size _ rfl)
end TC2
section TC3
open PySem PySem.W PyProof.Rows PySem.Calls
set_option maxHeartbeats 4000000

noncomputable abbrev ent (w : World) (k : String) (u : Tok) (v : Value) : DictEntry := ⟨PyData.keyHash w.params (Str.ofString k), .str (Str.ofString k) u, v⟩
noncomputable abbrev sioD (w : World) (u1 u2 u3 v1 : Tok) (b c : Value) : List DictEntry := [ent w "_StringIO__newline" u1 (.str (Str.ofString "\n") v1), ent w "_StringIO__buf" u2 b, ent w "_StringIO__pos" u3 c]

theorem own_two {h h₀ : Heap} {q d : Addr} {a b : Obj} (hq : h.get? q = some a) (hd : h.get? d = some b) (nq : h₀.get? q = none) (nd : h₀.get? d = none) :
    ∀ p ∈ [(q, a), (d, b)], h.get? p.1 = some p.2 ∧ h₀.get? p.1 = none := by
  intro p hp
  rcases List.mem_cons.mp hp with rfl | hp
  · exact ⟨hq, nq⟩
  · rcases List.mem_cons.mp hp with rfl | hp
    · exact ⟨hd, nd⟩
    · cases hp

theorem stays_two {h h' : Heap} {q d : Addr} {a b : Obj} (k : Kept [q, d] h h') (hq : h.get? q = some a) (hd : h.get? d = some b) (hq' : h'.get? q = some a) (hd' : h'.get? d = some b) : Stays h h' := by
  intro c o e
  by_cases hb : c ∈ [q, d]
  · rcases List.mem_cons.mp hb with rfl | hb
    · rw [hq] at e; cases e; exact hq'
    · rcases List.mem_cons.mp hb with rfl | hb
      · rw [hd] at e; cases e; exact hd'
      · cases hb
  · exact k c o hb e

theorem ct_translated {w : World} {A : Around} {Q : Value → Shared → Prop} {s : Shared} {p : Program} {loose : List Str} {mean : ExcName → Option Value} {mg mb : Str → Option Value} {h₀ : Heap}
    (X : (Mine.top.heap_1_39 w.params).In h₀) (T : Top p loose mean mg mb h₀) (st : Stays h₀ s.heap) (hroom : A.depth + 2 < recursionLimit)
    (x : Str) (t : Tok) (q dx : Addr) {u1 u2 u3 v1 : Tok} {b c : Value} {n : Nat} (hq : s.heap.get? q = some (instObj 727 dx)) (hdx : s.heap.get? dx = some (dictOf (sioD w u1 u2 u3 v1 b c) n)) (lq : dx < q) (nq : h₀.get? q = none) (nd : h₀.get? dx = none)
    (ret : ∀ h' tk, Stays s.heap h' → Q (.str x t) { s with heap := h', toks := tk }) :
    wpAny (model PySem.Challenge.rw_aa0007_01.row.prog w) A (call (.ref 504) [.ref q, .str x t]) Q noE s := by
  revert X; k_fill; intro X
  k_dflt (refine' enterG (h₀ := h₀) (binds := [(Str.ofString "self", Value.ref q), (Str.ofString "s", Value.str x t)]) [(q, instObj 727 dx), (dx, dictOf (sioD w u1 u2 u3 v1 b c) n)] ?k1 ?k2 ?k3 ?k4 ?k6 ?k7 ?k8 ?k9 ?kB ?_ ?c5 ?c2 ?c3 ?c4; (case k4 => exact own_two hq hdx nq nd); ((case k1 => assumption); (case k2 => assumption); (case k3 => assumption); (case k6 => k_is); (case k7 => k_is); (case k8 => (first | exact (ch1 3 0 1 0 hroom (Eq.refl true)) | omega)); (case k9 => first | exact BindsTo.of_eq rfl | exact binds_K (Frag.In.keeps (by assumption) (by assumption)) rfl (by k_is) rfl rfl rfl); (case c5 => decide); (case kB => exact locs rfl); (case c2 => exact rfl); (case c3 => exact rfl); (case c4 => exact rfl)))
  have lq' : @LT.lt Nat _ dx q := lq
  intro g h₁ Xg Tg sg kept hsz F N
  (try k_extra "en")
  ((try k_extra "rf"); (repeat' (first | (k_extra "wb") | (k_extra "wo"))))
  (try dsimp only)
  rename News _ _ _ _ => N
  rename Fr _ _ _ _ => F
  exact ret _ _ (stays_two (kept _ F.keep) hq hdx (N _ (.head _)).1 (N _ (.tail _ (.head _))).1)

theorem ct_sinit {w : World} {A : Around} {R : Result → Shared → Prop} {s : Shared} {p : Program} {loose : List Str} {mean : ExcName → Option Value} {mg mb : Str → Option Value} {h₀ : Heap}
    (X : (Mine.top.heap_1_39 w.params).In h₀) (T : Top p loose mean mg mb h₀) (st : Stays h₀ s.heap) (hroom : A.depth + 5 < recursionLimit)
    (x : Str) (t : Tok) (q dx : Addr) (hq : s.heap.get? q = some (instObj 727 dx)) (hdx : s.heap.get? dx = some emptyDict) (lq : dx < q) (nq : h₀.get? q = none) (nd : h₀.get? dx = none)
    (ret : ∀ h' tk u1 u2 u3 v1 v3, Kept [q, dx] s.heap h' → h'.get? q = some (instObj 727 dx) → h'.get? dx = some (dictOf (sioD w u1 u2 u3 v1 (.str x t) (.int 0 v3)) 3) → R (.ok (.ret .none)) { s with heap := h', toks := tk }) :
    codeAny (model PySem.Challenge.rw_aa0007_01.row.prog w) A (.call (.ref 497) ⟨[.ref q, .str x t], []⟩) R s := by
  revert X; k_fill; intro X
  k_dflt (refine' enterGc (h₀ := h₀) (binds := [(Str.ofString "self", Value.ref q), (Str.ofString "initial_value", Value.str x t), (Str.ofString "newline", Value.str (Str.ofString "\n") 952)]) [(q, instObj 727 dx), (dx, dictOf [] 0)] ?k1 ?k2 ?k3 ?k4 ?k6 ?k7 ?k8 ?k9 ?kB ?_ ?c5 ?c2 ?c3 ?c4; (case k4 => exact own_two hq hdx nq nd); ((case k1 => assumption); (case k2 => assumption); (case k3 => assumption); (case k6 => k_is); (case k7 => k_is); (case k8 => (first | exact (ch1 6 0 1 0 hroom (Eq.refl true)) | omega)); (case k9 => first | exact BindsTo.of_eq rfl | exact binds_K (Frag.In.keeps (by assumption) (by assumption)) rfl (by k_is) rfl rfl rfl); (case c5 => decide); (case kB => exact locs rfl); (case c2 => exact rfl); (case c3 => exact rfl); (case c4 => exact rfl)))
  have lq' : @LT.lt Nat _ dx q := lq
  intro g h₁ Xg Tg sg kept hsz F N
  (try k_extra "en")
  ((try k_extra "rf"); (repeat' (first | (k_extra "wb") | ((k_extra "lC"); (k_extra "wo")))))
  rename News _ _ _ _ => N
  rename Fr _ _ _ _ => F
  refine ct_translated X T (fun b o e => F.keep b o (sg b o e)) ?_ x t q dx (N _ (.head _)).1 (N _ (.tail _ (.head _))).1 lq nq nd ?_
  · exact roomd hroom rfl
  intro h2 tk2 st2
  have F2 : Fr g s.heap.objs.size h2 _ := ⟨F.ns.keeps st2, fun b o e => st2 b o (F.keep b o e), F.above⟩
  have N2 := fun p hp => (And.intro (st2 _ _ (N p hp).1) (N p hp).2 : h2.get? p.1 = some p.2 ∧ p.1 ≠ s.heap.objs.size ∧ g.get? p.1 = none)
  clear F N
  change News g s.heap.objs.size h2 _ at N2
  ((try k_extra "rf"); (repeat' (first | (k_extra "wb") | (k_extra "wo"))))
  (try dsimp only)
  rename News _ _ _ _ => N
  rename Fr _ _ _ _ => F
  exact ret _ _ _ _ _ _ _ (kept _ F.keep) (N _ (.head _)).1 (N _ (.tail _ (.head _))).1

theorem ct_sio {w : World} {A : Around} {Q : Value → Shared → Prop} {s : Shared} {p : Program} {loose : List Str} {mean : ExcName → Option Value} {mg mb : Str → Option Value}
    (X : (Mine.top.heap_1_39 w.params).In s.heap) (T : Top p loose mean mg mb s.heap) (hroom : A.depth + 15 < recursionLimit)
    (x : Str) (t : Tok)
    (ret : ∀ h' tk q dx u1 u2 u3 v1 v3, Stays s.heap h' → s.heap.objs.size ≤ dx → dx < q → h'.get? q = some (instObj 727 dx) → h'.get? dx = some (dictOf (sioD w u1 u2 u3 v1 (.str x t) (.int 0 v3)) 3) → Q (.ref q) { s with heap := h', toks := tk }) :
    wpAny (model PySem.Challenge.rw_aa0007_01.row.prog w) A (call (.ref 727) [.str x t]) Q noE s := by
  revert X; k_fill; intro X
  refine hideL ?_; intro gg1
  obtain ⟨hh, gg, dd, tt, oo⟩ := s
  k_unfold
  have hdep : (A.under (.builtin "type.__call__" ⟨[.ref 727, .str x t], []⟩)).depth ≤ A.depth + 1 := by
    rw [depth_under_make]
    exact Nat.le_refl _
  refine wpAny_call ?_
  have b8 : ∀ self, Looks (model PySem.Challenge.rw_aa0007_01.row.prog w) hh (bindSpecial (.ref 497) self) (.ref 497, [self]) := fun self => bind_fn (f := 497) X self (by k_is)
  have b9 : ∀ (A' : Around) (Q' : Value → Shared → Prop) (E' : Value → Shared → Prop), Q' (.ref 220) ⟨hh, gg, dd, tt + 1, oo⟩ → wpAny (model PySem.Challenge.rw_aa0007_01.row.prog w) A' (getAttr (.ref 727) "__new__") Q' E' ⟨hh, gg, dd, tt, oo⟩ := by
    intro A' Q' E' hQ
    k_dflt (refine' cls_bind (mc := .type "type") (s := ⟨hh, gg, dd, tt, oo⟩) X ?r ?e (wpAny_call (sm_get (s := ⟨hh, gg, dd, tt + 1, oo⟩) X ?hp (handed_on ?hv hQ))); (case r => k_is); (case e => k_is); (case hp => k_is); (case hv => k_handed))
  k_dflt (refine' makeNew (fN := 220) (fI := 497) (X 727 _ ?a1) ?a2 ?a3 ?a4 ?a5 ?a6 ?a7 b8 b9 ?_; (case a1 => k_is); (case a2 => exact rfl); (case a3 => exact looks_specialIn X (by k_is)); (case a4 => exact looks_instIn X (by k_is)); (case a5 => exact Looks.of_peek X (by kernel_rfl)); (case a6 => exact looks_subIn X (by k_is)); (case a7 => exact looks_findIn X (by k_is)))
  refine wpAny_mono (ct_new (s := ⟨hh, gg, dd, tt + 1, oo⟩) X T (by (first | exact (ch2 0 1 16 0 6 0 hdep hroom (Eq.refl true)) | omega)) x t (fun h' tk q dx st hd lq hq hdx => ?_)) (fun _ _ x => x) (fun _ _ x => x.elim)
  refine ⟨q, dx, h', tk, rfl, rfl, hq, st, ?_⟩
  have nn : ∀ b, hh.objs.size ≤ b → hh.get? b = none := fun b hb => by
    cases e : hh.get? b with
    | none => rfl
    | some o => exact absurd (Heap.lt_size e) (Nat.not_lt.mpr hb)
  refine ct_sinit (h₀ := hh) X T st (by (first | exact (ch2 0 1 16 0 6 0 hdep hroom (Eq.refl true)) | omega)) x t q dx hq hdx lq (nn _ (Nat.le_of_lt (Nat.lt_of_le_of_lt hd lq))) (nn _ hd) ?_
  intro h2 tk2 u1 u2 u3 v1 v3 kp hq2 hd2
  refine ⟨rfl, ret h2 tk2 q dx u1 u2 u3 v1 v3 (fun b o e => kp b o ?_ (st b o e)) hd lq hq2 hd2⟩
  intro hb
  have e' : hh.get? b = some o := e
  rcases List.mem_cons.mp hb with rfl | hb
  · rw [nn _ (Nat.le_of_lt (Nat.lt_of_le_of_lt hd lq))] at e'; cases e'
  · rcases List.mem_cons.mp hb with rfl | hb
    · rw [nn _ hd] at e'; cases e'
    · cases hb
end TC3
section TD1
open PySem PySem.W PyProof.Rows PySem.Calls Builtin
set_option maxHeartbeats 4000000
theorem mro_dq : mroOf (.type "collections.deque") = pure [.type "collections.deque", .type "object"] := by rw [mroOf_type]; kernel_rfl
theorem lookup_dq_new : typeLookup (.type "collections.deque") "__new__" = pure (some (.builtin "collections.deque.__new__")) := by rw [typeLookup_type, builtinLookup_eq_fast]; kernel_rfl
theorem slot_dq_init : Slot "collections.deque" "__init__" "collections.deque.__init__" :=
  .of (owner := "collections.deque") (n := "__init__") (by rw [typeLookup_type, builtinLookup_eq_fast]; kernel_rfl) (by decide +kernel) (by decide +kernel) (by decide +kernel)
    (.inl (by rw [PySem.W.S.findZ_eq]; decide +kernel)) (by rw [isSubtype_type]; kernel_rfl)
theorem entry_dq_init : entryFor table "collections.deque.__init__" = some Builtin.«collections.deque.__init__» := entryFor_of_tree (by kernel_rfl)
theorem entry_dq_new : entryFor table "collections.deque.__new__" = some Builtin.«collections.deque.__new__» := entryFor_of_tree (by kernel_rfl)
theorem called_dq : TypeCalled "collections.deque" "collections.deque.__new__" "collections.deque.__init__" :=
  ⟨by decide +kernel, by rw [PySem.W.S.findZ_eq]; decide +kernel, ⟨_, _, mro_dq⟩, madeBy_type mro_dq lookup_dq_new (by decide +kernel), by decide +kernel, by rw [isSubtype_type]; kernel_rfl, slot_dq_init⟩
theorem typeCall_dq_0 : checkTypeCall "collections.deque" ⟨[], []⟩ = pure () := by rw [PySem.W.Fast.te11612656972197000677]; kernel_rfl
theorem newCall_dq_0 : checkBuiltinCall "collections.deque.__new__" ⟨[.type "collections.deque"], []⟩ = pure () := by rw [PySem.W.Fast.te10254737850608025244]; kernel_rfl
theorem owner_dq : Manifest.owners.lookup (String.ofList "collections.deque".toList.reverse.reverse) = some Manifest.sig_collections_deque := by kernel_rfl
theorem args_dq_init (a : Value) : argsOk "collections.deque.__init__" ⟨[a], []⟩ := by
  unfold argsOk; rw [signature?_of (id := "collections.deque.__init__") (n := "__init__".toList.reverse) (o := "collections.deque".toList.reverse) (by kernel_rfl) owner_dq]; kernel_rfl
theorem sub_dq : isSubtype (.type "collections.deque") (.type "collections.deque") = pure true := by rw [isSubtype_type]; kernel_rfl
theorem isType_dq : isType (.type "collections.deque") = pure true := by kernel_rfl
noncomputable def dqO (xs : Array Value) (n : Int) : Obj := { cls := .type "collections.deque", dict := none, data := .fields (#[.none, rawInt n] ++ xs) }
theorem update_same {h : Heap} {a : Addr} {o : Obj} {f : Obj → Obj} (ho : h.get? a = some o) (e : f o = o) : h.update a f = h := by
  refine hideL ?_; intro gg1
  obtain ⟨e1, _⟩ := Heap.get?_some_iff.mp ho
  obtain ⟨objs, l⟩ := h
  k_unfold
  simp only at e1
  show (⟨objs.modify a f, l⟩ : Heap) = ⟨objs, l⟩
  congr 1
  refine Array.ext_getElem? fun i => ?_
  rw [Array.getElem?_modify]
  split
  · next hi => subst hi; rw [e1]; simp only [Option.map_some, e]
  · rfl
section
variable {prog : Program} {w : World} {A : Around} {E : Value → Shared → Prop} {s : Shared}
theorem call_dq {Q : Value → Shared → Prop} (h : Q (.ref s.heap.objs.size) { s with heap := s.heap.push (dqO #[] 0) }) : wpAny (model prog w) A (PySem.call (.type "collections.deque") []) Q E s := by
  refine callType_meets called_dq typeCall_dq_0 newCall_dq_0 entry_dq_new entry_dq_init (Q₁ := fun v s' => v = .ref s.heap.objs.size ∧ s' = { s with heap := s.heap.push (dqO #[] 0) }) (Meets.of_wp (S := fun _ R s₁ => s₁ = s ∧ R (.ok (.ret (.ref s.heap.objs.size))) { s with heap := s.heap.push (dqO #[] 0) }) ?_) ⟨rfl, rfl, rfl⟩ ?_
  · rintro prog w A R s₁ ⟨rfl, hR⟩
    unfold Builtin.«collections.deque.__new__» Deque.newArgs
    have h2 : isSubtype (.type "collections.deque") (.type Deque.ty) = pure true := sub_dq
    with_reducible refine wpAny_bind ?_
    dsimp only
    with_reducible refine wpAny_bind (wpAny_of_eq isType_dq ?_)
    with_reducible refine wp_iteF ?e1 ?_
    case e1 => rfl
    with_reducible refine wpAny_bind (wpAny_of_eq h2 ?_)
    with_reducible refine wp_iteF ?e2 ?_
    case e2 => rfl
    with_reducible refine wpAny_pure ?_
    dsimp only
    unfold Deque.new
    with_reducible refine wpAny_bind ?_
    dsimp only
    rw [if_neg (by exact Nat.not_lt_zero sizeLine)]
    with_reducible refine wp_iteF ?e3 ?_
    case e3 => rfl
    with_reducible refine wpAny_bind (wpAny_pure ?_)
    with_reducible refine wpAny_newObj_type ?_ ?hd
    case hd => size_fits
    exact wpAny_pure (a := PySem.Fin.done (.ret _)) ⟨_, rfl, hR⟩
  · rintro obj s₁ ⟨rfl, rfl⟩
    refine ⟨⟨_, Heap.get?_push_size _ rfl, rfl⟩, args_dq_init _, fun _ R s₂ => s₂.heap.get? s.heap.objs.size = some (dqO #[] 0) ∧ R (.ok (.ret .none)) s₂, Meets.of_wp ?_, ?_⟩
    · rintro prog w A R s₂ ⟨ho, hR⟩
      unfold Builtin.«collections.deque.__init__» Deque.clear
      have wr : wpAny (model prog w) A.in1 (setField (.ref s.heap.objs.size) 0 .none >>= fun _ => (do
          let xs ← Deque.items (.ref s.heap.objs.size)
          if xs.size > 0 then do
              Deque.change (.ref s.heap.objs.size) fun _ => #[]
              letGo xs.toList [.ref s.heap.objs.size]
            else pure ()) >>= fun _ => ret Value.none) (fun fin s' => ∃ v, fin = Fin.done (Flow.ret v) ∧ R (Except.ok (Flow.ret v)) s') (fun e s' => R (Except.error e) s') s₂ := by
        wp_walk
        refine ⟨_, rfl, ?_⟩
        rw [update_same ho rfl]
        exact hR
      exact wr

    · refine ⟨Heap.get?_push_size _ rfl, rfl, h⟩
theorem noBool_dq : typeLookup (.type "collections.deque") "__bool__" = pure none := by rw [typeLookup_type, builtinLookup_eq_fast]; kernel_rfl
theorem slot_dq_len : Slot "collections.deque" "__len__" "collections.deque.__len__" :=
  .of (owner := "collections.deque") (n := "__len__") (by rw [typeLookup_type, builtinLookup_eq_fast]; kernel_rfl) (by decide +kernel) (by decide +kernel) (by decide +kernel)
    (.inl (by rw [PySem.W.S.findZ_eq]; decide +kernel)) (by rw [isSubtype_type]; kernel_rfl)
theorem entry_dq_len : entryFor table "collections.deque.__len__" = some Builtin.«collections.deque.__len__» := entryFor_of_tree (by kernel_rfl)
theorem args_dq_len (a : Value) : argsOk "collections.deque.__len__" ⟨[a], []⟩ := by
  unfold argsOk; rw [signature?_of (id := "collections.deque.__len__") (n := "__len__".toList.reverse) (o := "collections.deque".toList.reverse) (by kernel_rfl) owner_dq]; kernel_rfl

theorem len_body_dq {l : Addr} {n : Int} {Q : Value → Shared → Prop} (hl : s.heap.get? l = some (dqO #[] n))
    (h : Q (.int 0 (s.toks + 1)) { s with toks := s.toks + 1 + 1 }) : wpAny (model prog w) A (Builtin.«len» ⟨[.ref l], []⟩) (fun fin s' => ∃ r, fin = .done (.ret r) ∧ Q r s') E s := by
  have hT : s.TypeIs (.ref l) "collections.deque" := ⟨_, hl, rfl⟩
  unfold Builtin.«len»
  refine wpAny_bind (m := oneArg "len" _) (wpAny_pure ?_)
  refine wpAny_bind (m := callSpecial? (.ref l) (Str.ofString "__len__")) (wpAny_callSpecial?_slot (name := Str.ofString "__len__") hT slot_dq_len
    (wpAny_call_entry slot_dq_len hT entry_dq_len ?_ (args_dq_len _)))
  unfold Builtin.«collections.deque.__len__» Deque.size
  wp_walk
  refine ⟨_, rfl, ?_⟩
  show wpAny _ _ _ _ _ { s with toks := s.toks + 1 }
  refine wpAny_bind (wpAny_holding (wpAny_pure ?_))
  refine wpAny_bind (wpAny_letGo ?_)
  show wpAny _ _ (if (0 : Int) < 0 then _ else _) _ _ _
  rw [if_neg (by (lia))]
  show wpAny _ _ (if (0 : Int) ≥ 2 ^ 63 then _ else _) _ _ _
  rw [if_neg (by (lia))]
  exact wpAny_bind (wpAny_mkInt (wpAny_pure ⟨_, rfl, h⟩))

theorem truthy_dq {l : Addr} {n : Int} {Q : Bool → Shared → Prop} (hl : s.heap.get? l = some (dqO #[] n))
    (h : Q false { s with toks := s.toks + 1 + 1 }) : wpAny (model prog w) A (truthy (.ref l)) Q E s := by
  have hT : s.TypeIs (.ref l) "collections.deque" := ⟨_, hl, rfl⟩
  have key : wpAny (model prog w) A (runValue (.builtin "len" ⟨[.ref l], []⟩)) (fun r s' => r = .int 0 (s.toks + 1) ∧ Q false s') E s := by
    refine wpAny_runValue (codeAny_builtin entry_len ?_)
    rw [Around.under_plainId plain_len _]
    exact wpAny_mono (len_body_dq (Q := fun r s' => r = .int 0 (s.toks + 1) ∧ Q false s') hl ⟨rfl, h⟩)
      (fun fin s' h' => by obtain ⟨r, rfl, hq⟩ := h'; exact hq) fun _ _ e => e
  unfold truthy
  first
    | refine wpAny_bind (wpAny_callSpecial?_none (name := Str.ofString "__bool__") hT noBool_dq ?_)
    | refine wpAny_bind (wpAny_pure (wpAny_bind (wpAny_callSpecial?_none (name := Str.ofString "__bool__") hT noBool_dq ?_)))
  first
    | refine wpAny_bind (wpAny_specialOf (name := Str.ofString "__len__") hT slot_dq_len.lookup ?_)
    | refine wpAny_bind (wpAny_pure (wpAny_bind (wpAny_specialOf (name := Str.ofString "__len__") hT slot_dq_len.lookup ?_)))
  first
    | exact wpAny_bind (wpAny_mono key (fun r s' h' => by obtain ⟨rfl, hq⟩ := h'; exact wpAny_pure hq) fun _ _ e => e)
    | exact wpAny_bind (wpAny_pure (wpAny_bind (wpAny_mono key (fun r s' h' => by obtain ⟨rfl, hq⟩ := h'; exact wpAny_pure hq) fun _ _ e => e)))
end
end TD1
section TC4
open PySem PySem.W PyProof.Rows PySem.Calls
set_option maxHeartbeats 8000000

theorem fr_stay {h₀ h h' : Heap} {L : Addr} {m : Str → Option Value} (F : Fr h₀ L h m) (k : Stays h h') : Fr h₀ L h' m := ⟨F.ns.keeps k, fun b o e => k b o (F.keep b o e), F.above⟩
theorem news_stay {h₀ h h' : Heap} {L : Addr} {news : List (Addr × Obj)} (N : News h₀ L h news) (k : Stays h h') : News h₀ L h' news := fun p hp => ⟨k _ _ (N p hp).1, (N p hp).2⟩

theorem stays_push (h : Heap) (o : Obj) : Stays h (h.push o) := fun _ _ e => Heap.get?_push_of_some o e
theorem news_new {h₀ h h' : Heap} {L : Addr} {m : Str → Option Value} {news : List (Addr × Obj)} {a : Addr} {o : Obj} (F : Fr h₀ L h m) (hs : h.objs.size ≤ a) (ho : h'.get? a = some o) (N : News h₀ L h' news) : News h₀ L h' ((a, o) :: news) := by
  refine List.forall_mem_cons.mpr ⟨⟨ho, ?_, ?_⟩, N⟩
  · obtain ⟨oL, _, _, hL, _⟩ := F.ns
    exact Nat.ne_of_gt (Nat.lt_of_lt_of_le (Heap.lt_size hL) hs)
  · cases e : h₀.get? a with
    | none => rfl
    | some o' => exact absurd (Heap.lt_size (F.keep _ _ e)) (Nat.not_lt.mpr hs)

theorem push_led {h₀ h : Heap} {L : Addr} {m : Str → Option Value} {news : List (Addr × Obj)} (F : Fr h₀ L h m) (N : News h₀ L h news) (o : Obj) (ho : o.isFreed = false) :
    Fr h₀ L (h.push o) m ∧ News h₀ L (h.push o) ((h.objs.size, o) :: news) :=
  have F' := fr_stay F (stays_push h o)
  ⟨F', news_new F (Nat.le_refl _) (Heap.get?_push_size _ ho) (news_stay N (stays_push h o))⟩

noncomputable def lexW : Str := Str.ofString "abcdfeghijklmnopqrstuvwxyzABCDEFGHIJKLMNOPQRSTUVWXYZ0123456789_ßàáâãäåæçèéêëìíîïðñòóôõöøùúûüýþÿÀÁÂÃÄÅÆÇÈÉÊËÌÍÎÏÐÑÒÓÔÕÖØÙÚÛÜÝÞ"
noncomputable abbrev lexD (w : World) (kk : Nat → Tok) (qs d1 d2 : Addr) (comm split st lineno token : Value) : List DictEntry :=
  [ent w "instream" (kk 1) (.ref qs), ent w "infile" (kk 2) .none, ent w "posix" (kk 3) (.bool true), ent w "eof" (kk 4) .none, ent w "commenters" (kk 5) comm, ent w "wordchars" (kk 6) (.str lexW (kk 20)), ent w "whitespace" (kk 7) (.str (Str.ofString " \t\r\n") (kk 21)),
   ent w "whitespace_split" (kk 8) split, ent w "quotes" (kk 9) (.str (Str.ofString "'\"") (kk 22)), ent w "escape" (kk 10) (.str (Str.ofString "\\") (kk 23)), ent w "escapedquotes" (kk 11) (.str (Str.ofString "\"") (kk 24)), ent w "state" (kk 12) st,
   ent w "pushback" (kk 13) (.ref d1), ent w "lineno" (kk 14) lineno, ent w "debug" (kk 15) (.int 0 (kk 25)), ent w "token" (kk 16) token, ent w "filestack" (kk 17) (.ref d2), ent w "source" (kk 18) .none, ent w "_punctuation_chars" (kk 19) (.str (Str.ofString "") (kk 26))]
noncomputable def Lex (w : World) (h : Heap) (dx qs d1 d2 : Addr) (comm split st lineno token : Value) : Prop :=
  ∃ kk, h.get? dx = some (dictOf (lexD w kk qs d1 d2 comm split st lineno token) 19)
theorem lex_mk {w : World} {h : Heap} {dx : Addr} {k1 k2 k3 k4 k5 k6 k7 k8 k9 k10 k11 k12 k13 k14 k15 k16 k17 k18 k19 t1 t2 t3 t4 t5 t6 t7 : Tok} {qs d1 d2 : Addr} {comm split st lineno token : Value}
    (e : h.get? dx = some (dictOf [ent w "instream" k1 (.ref qs), ent w "infile" k2 .none, ent w "posix" k3 (.bool true), ent w "eof" k4 .none, ent w "commenters" k5 comm, ent w "wordchars" k6 (.str lexW t1), ent w "whitespace" k7 (.str (Str.ofString " \t\r\n") t2), ent w "whitespace_split" k8 split, ent w "quotes" k9 (.str (Str.ofString "'\"") t3), ent w "escape" k10 (.str (Str.ofString "\\") t4), ent w "escapedquotes" k11 (.str (Str.ofString "\"") t5), ent w "state" k12 st, ent w "pushback" k13 (.ref d1), ent w "lineno" k14 lineno, ent w "debug" k15 (.int 0 t6), ent w "token" k16 token, ent w "filestack" k17 (.ref d2), ent w "source" k18 .none, ent w "_punctuation_chars" k19 (.str (Str.ofString "") t7)] 19)) :
    Lex w h dx qs d1 d2 comm split st lineno token :=
  ⟨fun i => [0, k1, k2, k3, k4, k5, k6, k7, k8, k9, k10, k11, k12, k13, k14, k15, k16, k17, k18, k19, t1, t2, t3, t4, t5, t6, t7].getD i 0, e⟩

noncomputable def mkE (w : World) (kv : List (String × Option (Tok → Value))) : List (Tok × Tok) → List Value → List DictEntry → List DictEntry :=
  List.rec (motive := fun _ => List (Tok × Tok) → List Value → List DictEntry → List DictEntry) (fun _ _ acc => acc)
    (fun p _ ih ts vs acc => ih ts.tail (Option.rec (motive := fun _ => List Value) vs.tail (fun _ => vs) p.2) (ent w p.1 (ts.headD (0, 0)).1 (Option.rec (motive := fun _ => Value) (vs.headD .none) (fun f => f (ts.headD (0, 0)).2) p.2) :: acc)) kv
noncomputable def Ents (w : World) (vs : List Value) (kv : List (String × Option (Tok → Value))) (es : List DictEntry) : Prop := ∃ ts, es = mkE w kv ts vs []
section
variable {w : World} {vs : List Value} {kv : List (String × Option (Tok → Value))} {es : List DictEntry} {n : String} {k t : Tok}
theorem mkE_acc (ts : List (Tok × Tok)) (vs : List Value) (acc : List DictEntry) : mkE w kv ts vs acc = mkE w kv ts vs [] ++ acc := by
  induction kv generalizing ts vs acc with
  | nil => rfl
  | cons p r ih => exact (ih _ _ (_ :: acc)).trans (((congrArg (· ++ acc) (ih _ _ [_])).trans (List.append_assoc _ _ _)).symm)
theorem Ents.putF {f : Tok → Value} (E : Ents w vs kv es) : Ents w vs ((n, some f) :: kv) (es ++ [ent w n k (f t)]) :=
  E.elim fun ts e => ⟨(k, t) :: ts, (congrArg (· ++ _) e).trans (mkE_acc ts vs _).symm⟩
theorem Ents.putS {x : Str} (E : Ents w vs kv es) : Ents w vs ((n, some (Value.str x)) :: kv) (es ++ [ent w n k (.str x t)]) := E.putF
theorem Ents.putI {x : Int} (E : Ents w vs kv es) : Ents w vs ((n, some (Value.int x)) :: kv) (es ++ [ent w n k (.int x t)]) := E.putF
theorem Ents.putC {v : Value} (E : Ents w vs kv es) : Ents w vs ((n, some fun _ => v) :: kv) (es ++ [ent w n k v]) := E.putF (t := 0)
theorem Ents.hole {a : Addr} (E : Ents w vs kv es) : Ents w (.ref a :: vs) ((n, none) :: kv) (es ++ [ent w n k (.ref a)]) :=
  E.elim fun ts e => ⟨(k, 0) :: ts, (congrArg (· ++ _) e).trans (mkE_acc ts vs _).symm⟩
theorem mkE_new {x : Str} (ts : List (Tok × Tok)) (vs : List Value) (acc : List DictEntry) (c : kv.all (fun p => !(Str.ofString p.1 == x)) = true) (ha : ∀ e ∈ acc, e.key.isStr x = false ∧ e.refKey = false) : ∀ e ∈ mkE w kv ts vs acc, e.key.isStr x = false ∧ e.refKey = false := by
  induction kv generalizing ts vs acc with
  | nil => exact ha
  | cons p r ih => exact ih _ _ _ (Bool.and_eq_true_iff.mp c).2 (fmc ⟨(Bool.not_eq_true' _).mp (Bool.and_eq_true_iff.mp c).1, rfl⟩ ha)
theorem mkE_len (ts : List (Tok × Tok)) (vs : List Value) (acc : List DictEntry) : (mkE w kv ts vs acc).length = kv.length + acc.length := by
  induction kv generalizing ts vs acc with
  | nil => exact (Nat.zero_add _).symm
  | cons p r ih => exact (ih _ _ _).trans (Nat.succ_add _ _).symm
end
theorem putL_new {x : Str} {hs : Int} {key v : Value} (es : List DictEntry) (h : ∀ e ∈ es, e.key.isStr x = false ∧ e.refKey = false) : putL x hs key v es = es ++ [⟨hs, key, v⟩] := by
  induction es with
  | nil => rfl
  | cons e r ih => exact (if_neg (Bool.eq_false_iff.mp (h e (.head _)).1)).trans (congrArg (e :: ·) (ih fun e' m => h e' (.tail _ m)))
theorem getL_new {x : Str} (es : List DictEntry) (h : ∀ e ∈ es, e.key.isStr x = false ∧ e.refKey = false) : (getL x es).isSome = true := by
  delta getL
  rw [List.find?_eq_none.mpr fun e m => Bool.eq_false_iff.mp (h e m).1]
  dsimp only
  rw [List.any_eq_false.mpr fun e m => Bool.eq_false_iff.mp (h e m).2]; rfl
theorem lx_set {w : World} {A : Around} {E : Value → Shared → Prop} {Q : Unit → Shared → Prop} {g h : Heap} {L q dx : Addr} {m : Str → Option Value} {gens : Array GenState} {drawn : Drawn} {t : Nat} {os : OsState} {others : List (Addr × Obj)}
    {vs vs' : List Value} {kv kv' : List (String × Option (Tok → Value))} {es : List DictEntry} {nm : String} {v : Value}
    (F : Fr g L h m) (X : (Mine.top.heap_1_39 w.params).In g) (N : News g L h ((dx, dictOf es kv.length) :: others)) (hq : (q, instObj 911 dx) ∈ others) (ne : ∀ p ∈ others, p.1 ≠ dx) (En : Ents w vs kv es)
    (Ek : ∀ k, Ents w vs' kv' (es ++ [ent w nm k v])) (ht : takerIn (Mine.top.heap_1_39 w.params) 911 (Str.ofString nm) = some none)
    (hnew : (kv.all (fun p => !(Str.ofString p.1 == Str.ofString nm)) && Nat.ble kv.length 900) = true)
    (hk : kv'.length = kv.length + 1) (k : ∀ h' tk es', Fr g L h' m → News g L h' ((dx, dictOf es' kv'.length) :: others) → Ents w vs' kv' es' → Q () ⟨h', gens, drawn, tk, os⟩) :
    wpAny (model PySem.Challenge.rw_aa0007_01.row.prog w) A (setAttr (.ref q) (Str.ofString nm) v) Q E ⟨h, gens, drawn, t, os⟩ := by
  obtain ⟨ts, rfl⟩ := En
  have c := Bool.and_eq_true_iff.mp hnew
  have hz := mkE_new (w := w) ts vs [] c.1 (List.forall_mem_nil _)
  have hlen : (mkE w kv ts vs []).length ≤ 900 := Nat.le_trans (Nat.le_of_eq (mkE_len ts vs [])) (Nat.le_of_ble_eq_true c.2)
  have e1 := putL_new (x := Str.ofString nm) (hs := PyData.keyHash w.params (Str.ofString nm)) (key := .str (Str.ofString nm) (t + 1)) (v := v) _ hz
  have e2 : putN (Str.ofString nm) (mkE w kv ts vs []) kv.length = kv'.length := (if_neg (Bool.eq_false_iff.mp (List.any_eq_false.mpr fun e m => Bool.eq_false_iff.mp (hz e m).1))).trans hk.symm
  revert X; k_fill; intro X
  refine set_dict (dx := dx) (K := Mine.top.heap_1_39 w.params) F X N (InstAt.of_news N (.tail _ hq) (.head _)) rfl (by k_is) (by k_is) ht (by k_is) ?_ (by rw [e1, e2]) (Upd.head ne) ?_ ?_
  · exact getL_new _ hz
  · rw [List.length_append]; exact Nat.le_trans (Nat.succ_le_succ hlen) (Nat.le_of_ble_eq_true rfl)
  · exact fun h' F' N' => k h' _ _ F' N' (Ek _)
noncomputable abbrev lexK6 : List (String × Option (Tok → Value)) := [("wordchars", some (Value.str lexW)), ("commenters", some (Value.str (Str.ofString "#"))), ("eof", some fun _ => .none), ("posix", some fun _ => .bool true), ("infile", some fun _ => .none), ("instream", none)]
theorem ents6 {w : World} {qs : Addr} {k1 k2 k3 k4 k5 k6 tc tw : Tok} : Ents w [.ref qs] lexK6 [ent w "instream" k1 (.ref qs), ent w "infile" k2 .none, ent w "posix" k3 (.bool true), ent w "eof" k4 .none, ent w "commenters" k5 (.str (Str.ofString "#") tc), ent w "wordchars" k6 (.str lexW tw)] :=
  have e0 : Ents w [] [] [] := ⟨[], rfl⟩
  (((((e0.hole (a := qs) (n := "instream") (k := k1)).putC (n := "infile") (k := k2) (v := .none)).putC (n := "posix") (k := k3) (v := .bool true)).putC (n := "eof") (k := k4) (v := .none)).putS (n := "commenters") (k := k5) (t := tc)).putS (n := "wordchars") (k := k6) (t := tw)
theorem lx_open {w : World} {g h : Heap} {L q dx qs ds : Addr} {oq os od : Obj} {k1 k2 k3 k4 k5 k6 tc tw : Tok}
    (N : News g L h [(qs, os), (ds, od), (q, oq), (dx, dictOf [ent w "instream" k1 (.ref qs), ent w "infile" k2 .none, ent w "posix" k3 (.bool true), ent w "eof" k4 .none, ent w "commenters" k5 (.str (Str.ofString "#") tc), ent w "wordchars" k6 (.str lexW tw)] 6)])
    (n1 : q ≠ dx) (n2 : qs ≠ dx) (n3 : ds ≠ dx) : ∃ O es, (q, oq) ∈ O ∧ (qs, os) ∈ O ∧ (ds, od) ∈ O ∧ (∀ p ∈ O, p.1 ≠ dx) ∧ Ents w [.ref qs] lexK6 es ∧ News g L h ((dx, dictOf es lexK6.length) :: O) :=
  ⟨[(qs, os), (ds, od), (q, oq)], _, .tail _ (.tail _ (.head _)), .head _, .tail _ (.head _), fmc n2 (fmc n3 (fmc n1 (List.forall_mem_nil _))), ents6, fmn N (.tail _ (.tail _ (.tail _ (.head _)))) (fmn N (.head _) (fmn N (.tail _ (.head _)) (fmn N (.tail _ (.tail _ (.head _))) (List.forall_mem_nil _))))⟩
theorem call_dqG {w : World} {A : Around} {E : Value → Shared → Prop} {Q : Value → Shared → Prop} {g h : Heap} {L : Addr} {m : Str → Option Value} {a : Addr × Obj} {O : List (Addr × Obj)} {gens : Array GenState} {drawn : Drawn} {t : Nat} {os : OsState}
    (F : Fr g L h m) (N : News g L h (a :: O)) (k : ∀ h' d, h.objs.size ≤ d → (∀ p ∈ a :: O, p.1 < d) → Fr g L h' m → News g L h' (a :: (d, dqO #[] 0) :: O) → Q (.ref d) ⟨h', gens, drawn, t, os⟩) :
    wpAny (model PySem.Challenge.rw_aa0007_01.row.prog w) A (PySem.call (.type "collections.deque") []) Q E ⟨h, gens, drawn, t, os⟩ := by
  have P := push_led F N (dqO #[] 0) rfl
  exact call_dq (k _ _ (Nat.le_refl _) (fun p hp => Heap.lt_size (N p hp).1) P.1 (fmn P.2 (.tail _ (.head _)) (fmn P.2 (.head _) fun p hp => P.2 p (.tail _ (.tail _ hp)))))
noncomputable abbrev lexK : List (String × Option (Tok → Value)) := [("_punctuation_chars", some (Value.str (Str.ofString ""))), ("source", some fun _ => .none), ("filestack", none), ("token", some (Value.str (Str.ofString ""))), ("debug", some (Value.int 0)), ("lineno", some (Value.int 1)), ("pushback", none), ("state", some (Value.str (Str.ofString " "))),
  ("escapedquotes", some (Value.str (Str.ofString "\""))), ("escape", some (Value.str (Str.ofString "\\"))), ("quotes", some (Value.str (Str.ofString "'\""))), ("whitespace_split", some fun _ => .bool false), ("whitespace", some (Value.str (Str.ofString " \t\r\n")))] ++ lexK6
theorem lex_of {w : World} {h : Heap} {dx qs d1 d2 : Addr} {es : List DictEntry} (E : Ents w [.ref d2, .ref d1, .ref qs] lexK es) (hg : h.get? dx = some (dictOf es 19)) :
    ∃ c1 c2 c3 c4, Lex w h dx qs d1 d2 (.str (Str.ofString "#") c1) (.bool false) (.str (Str.ofString " ") c2) (.int 1 c3) (.str (Str.ofString "") c4) := by
  obtain ⟨ts, rfl⟩ := E
  exact ⟨_, _, _, _, lex_mk hg⟩
theorem ct_linit {w : World} {A : Around} {R : Result → Shared → Prop} {s : Shared} {p : Program} {loose : List Str} {mean : ExcName → Option Value} {mg mb : Str → Option Value} {h₀ : Heap}
    (X : (Mine.top.heap_1_39 w.params).In h₀) (T : Top p loose mean mg mb h₀) (st : Stays h₀ s.heap) (hroom : A.depth + 30 < recursionLimit)
    (x : Str) (t : Tok) (q dx : Addr) (hq : s.heap.get? q = some (instObj 911 dx)) (hdx : s.heap.get? dx = some emptyDict) (lq : dx < q) (nq : h₀.get? q = none) (nd : h₀.get? dx = none)
    (ret : ∀ h' tk qs ds d1 d2 u1 u2 u3 v1 v3 c1 c2 c3 c4, Kept [q, dx] s.heap h' → s.heap.objs.size ≤ ds → ds < qs → qs < d1 → d1 < d2 → h'.get? q = some (instObj 911 dx) →
      h'.get? qs = some (instObj 727 ds) → h'.get? ds = some (dictOf (sioD w u1 u2 u3 v1 (.str x t) (.int 0 v3)) 3) → h'.get? d1 = some (dqO #[] 0) → h'.get? d2 = some (dqO #[] 0) →
      Lex w h' dx qs d1 d2 (.str (Str.ofString "#") c1) (.bool false) (.str (Str.ofString " ") c2) (.int 1 c3) (.str (Str.ofString "") c4) → R (.ok (.ret .none)) { s with heap := h', toks := tk }) :
    codeAny (model PySem.Challenge.rw_aa0007_01.row.prog w) A (.call (.ref 835) ⟨[.ref q, .str x t], [(Str.ofString "posix", .bool true)]⟩) R s := by
  revert X; k_fill; intro X
  k_dflt (refine' enterGc (h₀ := h₀) (binds := [(Str.ofString "self", Value.ref q), (Str.ofString "instream", Value.str x t), (Str.ofString "infile", Value.none), (Str.ofString "posix", Value.bool true), (Str.ofString "punctuation_chars", Value.bool false)]) [(q, instObj 911 dx), (dx, dictOf [] 0)] ?k1 ?k2 ?k3 ?k4 ?k6 ?k7 ?k8 ?k9 ?kB ?_ ?c5 ?c2 ?c3 ?c4; (case k4 => exact own_two hq hdx nq nd); ((case k1 => assumption); (case k2 => assumption); (case k3 => assumption); (case k6 => k_is); (case k7 => k_is); (case k8 => (first | exact (ch1 31 0 1 0 hroom (Eq.refl true)) | omega)); (case k9 => first | exact BindsTo.of_eq rfl | exact binds_K (Frag.In.keeps (by assumption) (by assumption)) rfl (by k_is) rfl rfl rfl); (case c5 => decide); (case kB => exact locs rfl); (case c2 => exact rfl); (case c3 => exact rfl); (case c4 => exact rfl)))
  have lq' : @LT.lt Nat _ dx q := lq
  intro g h₁ Xg Tg sg kept hsz F N
  (try k_extra "en")
  ((try k_extra "rf"); (repeat' (first | (k_extra "wb") | ((k_extra "lC"); (k_extra "wo")))))
  rename News _ _ _ _ => N
  rename Fr _ _ _ _ => F
  refine ct_sio (Xg.keeps F.keep) (Tg.keeps F.keep) (by first | exact roomd hroom rfl | exact room2 (j := 1) hroom rfl | (simp only [depth_deeper]; omega)) x t ?_
  intro h2 tk2 qs ds u1 u2 u3 v1 v3 st2 hds lds hqs hdds
  have F2 := fr_stay F st2
  have N2 := news_new F (Nat.le_trans hds (Nat.le_of_lt lds)) hqs (news_new F hds hdds (news_stay N st2))
  have l1 : @LT.lt Nat _ q ds := Nat.lt_of_lt_of_le (Heap.lt_size (N _ (.head _)).1) hds
  have lz : @LT.lt Nat _ ds qs := lds
  have ne1 : @Ne Nat q dx := Nat.ne_of_gt lq'
  have ne2 : @Ne Nat qs dx := Nat.ne_of_gt (Nat.lt_trans lq' (Nat.lt_trans l1 lz))
  have ne3 : @Ne Nat ds dx := Nat.ne_of_gt (Nat.lt_trans lq' l1)
  have hds0 : s.heap.objs.size ≤ ds := Nat.le_trans (by obtain ⟨oL, _, _, hL, _⟩ := F.ns; exact Nat.le_of_lt (Heap.lt_size hL)) hds
  clear F N hds lds
  ((try k_extra "rf"); (repeat' (first | (k_extra "v0") | (k_extra "wn") | ((k_extra "ge"); (k_extra "ve")) | ((k_extra "gx"); (k_extra "lX8"); (k_extra "vx")) | (k_extra "rq") | ((k_extra "lX8"); (k_extra "wo")))))
  rename News _ _ _ _ => N
  rename Fr _ _ _ _ => F
  refine hideL ?_; intro gg1
  obtain ⟨O, es, hqO, hsO, hbO, neO, En, N'⟩ := lx_open N ne1 ne2 ne3
  k_unfold
  clear N
  ((try k_extra "rf"); (repeat' (first | (k_extra "wb") | ((k_extra "lSa"); (k_extra "wo")))))
  (rename Ents _ _ _ _ => En; rename News _ _ _ _ => N; rename Fr _ _ _ _ => F; refine lx_set (gens := gg) (drawn := dd) (os := oo) F Xg N hqO neO En (fun _ => by first | exact En.hole | exact En.putS | exact En.putI | exact En.putC) (by k_is) (by decide +kernel) rfl ?_; clear En N F; intro h' tk es' F' N' En')
  ((try k_extra "rf"); (repeat' (first | (k_extra "wb") | ((k_extra "lSa"); (k_extra "wo")))))
  (rename Ents _ _ _ _ => En; rename News _ _ _ _ => N; rename Fr _ _ _ _ => F; refine lx_set (gens := gg) (drawn := dd) (os := oo) F Xg N hqO neO En (fun _ => by first | exact En.hole | exact En.putS | exact En.putI | exact En.putC) (by k_is) (by decide +kernel) rfl ?_; clear En N F; intro h' tk es' F' N' En')
  ((try k_extra "rf"); (repeat' (first | (k_extra "wb") | ((k_extra "lSa"); (k_extra "wo")))))
  (rename Ents _ _ _ _ => En; rename News _ _ _ _ => N; rename Fr _ _ _ _ => F; refine lx_set (gens := gg) (drawn := dd) (os := oo) F Xg N hqO neO En (fun _ => by first | exact En.hole | exact En.putS | exact En.putI | exact En.putC) (by k_is) (by decide +kernel) rfl ?_; clear En N F; intro h' tk es' F' N' En')
  ((try k_extra "rf"); (repeat' (first | (k_extra "wb") | ((k_extra "lSa"); (k_extra "wo")))))
  (rename Ents _ _ _ _ => En; rename News _ _ _ _ => N; rename Fr _ _ _ _ => F; refine lx_set (gens := gg) (drawn := dd) (os := oo) F Xg N hqO neO En (fun _ => by first | exact En.hole | exact En.putS | exact En.putI | exact En.putC) (by k_is) (by decide +kernel) rfl ?_; clear En N F; intro h' tk es' F' N' En')
  ((try k_extra "rf"); (repeat' (first | (k_extra "wb") | ((k_extra "lSa"); (k_extra "wo")))))
  (rename Ents _ _ _ _ => En; rename News _ _ _ _ => N; rename Fr _ _ _ _ => F; refine lx_set (gens := gg) (drawn := dd) (os := oo) F Xg N hqO neO En (fun _ => by first | exact En.hole | exact En.putS | exact En.putI | exact En.putC) (by k_is) (by decide +kernel) rfl ?_; clear En N F; intro h' tk es' F' N' En')
  ((try k_extra "rf"); (repeat' (first | (k_extra "wb") | ((k_extra "lSa"); (k_extra "wo")))))
  (rename Ents _ _ _ _ => En; rename News _ _ _ _ => N; rename Fr _ _ _ _ => F; refine lx_set (gens := gg) (drawn := dd) (os := oo) F Xg N hqO neO En (fun _ => by first | exact En.hole | exact En.putS | exact En.putI | exact En.putC) (by k_is) (by decide +kernel) rfl ?_; clear En N F; intro h' tk es' F' N' En')
  ((try k_extra "rf"); (repeat' (first | (k_extra "wb") | ((k_extra "lTy"); (k_extra "wo")))))
  (rename News _ _ _ _ => N; rename Fr _ _ _ _ => F; refine call_dqG (gens := gg) (drawn := dd) (os := oo) F N ?_; clear N F; intro h' d1 hd1 lt1 F' N')
  have lq1 := lt1 _ (.tail _ hsO)
  have neO := fmc (a := (d1, dqO #[] 0)) (P := fun p : Addr × Obj => p.1 ≠ dx) (Nat.ne_of_gt (lt1 _ (.head _))) neO
  have hqO := List.Mem.tail (d1, dqO #[] 0) hqO
  clear lt1
  ((try k_extra "rf"); (repeat' (first | (k_extra "wb") | ((k_extra "lSa"); (k_extra "wo")))))
  (rename Ents _ _ _ _ => En; rename News _ _ _ _ => N; rename Fr _ _ _ _ => F; refine lx_set (gens := gg) (drawn := dd) (os := oo) F Xg N hqO neO En (fun _ => by first | exact En.hole | exact En.putS | exact En.putI | exact En.putC) (by k_is) (by decide +kernel) rfl ?_; clear En N F; intro h' tk es' F' N' En')
  ((try k_extra "rf"); (repeat' (first | (k_extra "wb") | ((k_extra "lSa"); (k_extra "wo")))))
  (rename Ents _ _ _ _ => En; rename News _ _ _ _ => N; rename Fr _ _ _ _ => F; refine lx_set (gens := gg) (drawn := dd) (os := oo) F Xg N hqO neO En (fun _ => by first | exact En.hole | exact En.putS | exact En.putI | exact En.putC) (by k_is) (by decide +kernel) rfl ?_; clear En N F; intro h' tk es' F' N' En')
  ((try k_extra "rf"); (repeat' (first | (k_extra "wb") | ((k_extra "lSa"); (k_extra "wo")))))
  (rename Ents _ _ _ _ => En; rename News _ _ _ _ => N; rename Fr _ _ _ _ => F; refine lx_set (gens := gg) (drawn := dd) (os := oo) F Xg N hqO neO En (fun _ => by first | exact En.hole | exact En.putS | exact En.putI | exact En.putC) (by k_is) (by decide +kernel) rfl ?_; clear En N F; intro h' tk es' F' N' En')
  ((try k_extra "rf"); (repeat' (first | (k_extra "wb") | ((k_extra "lSa"); (k_extra "wo")))))
  (rename Ents _ _ _ _ => En; rename News _ _ _ _ => N; rename Fr _ _ _ _ => F; refine lx_set (gens := gg) (drawn := dd) (os := oo) F Xg N hqO neO En (fun _ => by first | exact En.hole | exact En.putS | exact En.putI | exact En.putC) (by k_is) (by decide +kernel) rfl ?_; clear En N F; intro h' tk es' F' N' En')
  ((try k_extra "rf"); (repeat' (first | (k_extra "wb") | ((k_extra "lTy"); (k_extra "wo")))))
  (rename News _ _ _ _ => N; rename Fr _ _ _ _ => F; refine call_dqG (gens := gg) (drawn := dd) (os := oo) F N ?_; clear N F; intro h' d2 hd2 lt1 F' N')
  have lq2 := lt1 _ (.tail _ (.head _))
  have neO := fmc (a := (d2, dqO #[] 0)) (P := fun p : Addr × Obj => p.1 ≠ dx) (Nat.ne_of_gt (lt1 _ (.head _))) neO
  have hqO := List.Mem.tail (d2, dqO #[] 0) hqO
  clear lt1
  ((try k_extra "rf"); (repeat' (first | (k_extra "wb") | ((k_extra "lSa"); (k_extra "wo")))))
  (rename Ents _ _ _ _ => En; rename News _ _ _ _ => N; rename Fr _ _ _ _ => F; refine lx_set (gens := gg) (drawn := dd) (os := oo) F Xg N hqO neO En (fun _ => by first | exact En.hole | exact En.putS | exact En.putI | exact En.putC) (by k_is) (by decide +kernel) rfl ?_; clear En N F; intro h' tk es' F' N' En')
  ((try k_extra "rf"); (repeat' (first | (k_extra "wb") | ((k_extra "lSa"); (k_extra "wo")))))
  (rename Ents _ _ _ _ => En; rename News _ _ _ _ => N; rename Fr _ _ _ _ => F; refine lx_set (gens := gg) (drawn := dd) (os := oo) F Xg N hqO neO En (fun _ => by first | exact En.hole | exact En.putS | exact En.putI | exact En.putC) (by k_is) (by decide +kernel) rfl ?_; clear En N F; intro h' tk es' F' N' En')
  ((try k_extra "rf"); (repeat' (first | (k_extra "wb") | ((k_extra "lSa"); (k_extra "wo")))))
  (rename Ents _ _ _ _ => En; rename News _ _ _ _ => N; rename Fr _ _ _ _ => F; refine lx_set (gens := gg) (drawn := dd) (os := oo) F Xg N hqO neO En (fun _ => by first | exact En.hole | exact En.putS | exact En.putI | exact En.putC) (by k_is) (by decide +kernel) rfl ?_; clear En N F; intro h' tk es' F' N' En')
  ((try k_extra "rf"); (repeat' (first | (k_extra "wb") | (k_extra "wo"))))
  (try dsimp only)
  rename Ents _ _ _ _ => En
  rename News _ _ _ _ => N
  rename Fr _ _ _ _ => F
  refine hideL ?_; intro gg2
  obtain ⟨c1, c2, c3, c4, LX⟩ := lex_of En (N _ (.head _)).1
  k_unfold
  exact ret _ _ qs ds d1 d2 _ _ _ _ _ c1 c2 c3 c4 (kept _ F.keep) hds0 lz lq1 lq2 (N _ (.tail _ hqO)).1 (N _ (.tail _ (.tail _ (.tail _ hsO)))).1 (N _ (.tail _ (.tail _ (.tail _ hbO)))).1 (N _ (.tail _ (.tail _ (.head _)))).1 (N _ (.tail _ (.head _))).1 LX
section
variable {w : World} {kk : Nat → Tok} {qs d1 d2 : Addr} {comm split st lineno token v key : Value} {hs : Int}
theorem put_token : (putL (Str.ofString "token") hs key v (lexD w kk qs d1 d2 comm split st lineno token), putN (Str.ofString "token") (lexD w kk qs d1 d2 comm split st lineno token) 19) = (lexD w kk qs d1 d2 comm split st lineno v, 19) := by kernel_rfl
theorem put_state : (putL (Str.ofString "state") hs key v (lexD w kk qs d1 d2 comm split st lineno token), putN (Str.ofString "state") (lexD w kk qs d1 d2 comm split st lineno token) 19) = (lexD w kk qs d1 d2 comm split v lineno token, 19) := by kernel_rfl
theorem put_comm : (putL (Str.ofString "commenters") hs key v (lexD w kk qs d1 d2 comm split st lineno token), putN (Str.ofString "commenters") (lexD w kk qs d1 d2 comm split st lineno token) 19) = (lexD w kk qs d1 d2 v split st lineno token, 19) := by kernel_rfl
theorem put_split : (putL (Str.ofString "whitespace_split") hs key v (lexD w kk qs d1 d2 comm split st lineno token), putN (Str.ofString "whitespace_split") (lexD w kk qs d1 d2 comm split st lineno token) 19) = (lexD w kk qs d1 d2 comm v st lineno token, 19) := by kernel_rfl
end
end TC4
section TB3
open PySem PySem.W PyProof.Rows PySem.Calls
set_option maxHeartbeats 4000000

theorem hide_frames {h B : Heap} {outer : List Env} (hl : h.FunFrames B outer) {FR : List Addr} (hF : ∀ env ∈ outer, ∀ L, env.frame = some L → L ∈ FR) {h' : Heap} (k : ∀ b ∈ FR, ∀ o, h.get? b = some o → h'.get? b = some o) : h'.FunFrames (hideAll h' FR) outer := by
  induction outer with
  | nil => trivial
  | cons env rest ih =>
    refine hideL ?_; intro gg1
    obtain ⟨hk, ⟨L, o, hf, hn, ho, hd⟩, hr⟩ := hl
    k_unfold
    have hm := hF env (.head _) L hf
    exact ⟨hk, ⟨L, o, hf, hideAll_none _ hm, k L hm o ho, hd⟩, ih hr fun e he => hF e (.tail _ he)⟩

theorem ff_mono {h B B' : Heap} {l : List Env} (hl : h.FunFrames B l) (k : ∀ b o, B'.get? b = some o → B.get? b = some o) : h.FunFrames B' l := by
  induction l with
  | nil => trivial
  | cons env rest ih =>
    refine hideL ?_; intro gg2
    obtain ⟨hk, ⟨L, o, hf, hn, ho, hd⟩, hr⟩ := hl
    k_unfold
    refine ⟨hk, ⟨L, o, hf, ?_, ho, hd⟩, ih hr⟩
    cases e : B'.get? L with
    | none => rfl
    | some x => rw [k _ _ e] at hn; cases hn

theorem enterGx {prog : Program} {w : World} {A : Around} {Q : Value → Shared → Prop} {E : Value → Shared → Prop} {s : Shared} {K : Frag} {f : Addr} {args : List Value} {kw : List (Str × Value)} {binds : List (Str × Value)} {h₀ : Heap} (own : List (Addr × Obj))
    {name qual : Str} {params : Arguments} {body : List Stmt} {scope : Scope} {dV kV doc pm cdv ct oc : Value} {an od : Option Addr} {osl : Array (Option Value)}
    {p : Program} {loose : List Str} {mean : ExcName → Option Value} {mg mb : Str → Option Value} {outer : List Env} {FR : List Addr} {B : Heap}
    (hfr : A.frames = some outer) (hFF : s.heap.FunFrames B outer) (hF : ∀ env ∈ outer, ∀ L, env.frame = some L → L ∈ FR) (hFo : ∀ L ∈ FR, L ∉ own.map (·.1))
    (X : K.In h₀) (T : Top p loose mean mg mb h₀) (st : Stays h₀ s.heap) (hown : ∀ q ∈ own, s.heap.get? q.1 = some q.2 ∧ h₀.get? q.1 = none)
    (ho : K.lookup f = some ⟨oc, od, .func (fnOf name qual params body scope dV kV doc pm an cdv ct), osl⟩) (hcd : codeIn K cdv qual = true)
    (hroom : A.depth < recursionLimit)
    (hbind : BindsTo s (fnOf name qual params body scope dV kV doc pm an cdv ct) ⟨args, kw⟩ binds) (hloc : ∀ y ∈ binds, scope.names.lookup y.1 = some .local)
    (h : ∀ g h₁, K.In g → Top p loose mean mg mb g → Stays h₀ g → (∀ h', Stays g h' → Kept (own.map (·.1)) s.heap h') → g.objs.size = s.heap.objs.size →
      Fr g s.heap.objs.size h₁ (fun y => binds.reverse.lookup y) → News g s.heap.objs.size h₁ own →
      wpAny (model prog w) (A.deeper (envOf qual scope s.heap.objs.size f cdv)) (execs body (envOf qual scope s.heap.objs.size f cdv))
        (fun fl s' => Q (match fl with | .ret v => v | _ => .none) s')
        (fun ev s' => ∃ hp m' e' h' tk, ev = .ref e' ∧ s' = { s with heap := h', toks := tk } ∧ Heap.MadeExc hp h' e' "StopIteration" [] ∧ Fr g s.heap.objs.size hp m' ∧
          (∀ h'' tk, (∀ b o, b ≠ s.heap.objs.size → b ∉ FR → hp.get? b = some o → h''.get? b = some o) → (∃ ob, h''.get? e' = some ob ∧ ob.cls = .type "StopIteration") → hp.UpToSlots h'' → E (.ref e') { s with heap := h'', toks := tk }))
        { s with heap := h₁, toks := s.toks + binds.length })
    (hcell : ∀ x ∈ scope.names, x.2 ≠ .cell) (hco : scope.isCoroutine = false) (hgen : scope.isGenerator = false) (hk : scope.kind = .function) :
    wpAny (model prog w) A (call (.ref f) args kw) Q E s := by
  refine wpAny_call ?_
  have st' : Stays h₀ (hideAll s.heap (own.map (·.1))) := fun b o e => hideAll_get _ (st b o e) fun hb => by
    refine hideL ?_; intro gg3
    obtain ⟨q, hq, rfl⟩ := List.mem_map.mp hb
    k_unfold
    rw [(hown q hq).2] at e; cases e
  refine codeAny_call_def (fd := fnOf name qual params body scope dV kV doc pm an cdv ct) (body := body) (binds := binds) hroom (X.keeps st _ _ ho) rfl (T.nolimit.keeps st) (codeRec_of (X.keeps st) hcd) rfl hbind hcell hloc (fun h₁ hns hk₁ => ?_) hco hgen hk
  refine wpAny_mono (h (hideAll s.heap (own.map (·.1))) h₁ (X.keeps st') (T.keeps st') st' (fun h' k b o hb e => k b o (hideAll_get _ e hb)) (hideAll_size _ _)
    ⟨hns, fun b o e => hk₁ b o (of_hideAll _ e), Nat.le_of_eq (hideAll_size _ _)⟩
    (fun q hq => ⟨hk₁ _ _ (hown q hq).1, Nat.ne_of_lt (Heap.lt_size (hown q hq).1), hideAll_none _ (List.mem_map_of_mem hq)⟩)) (fun _ _ x => x) fun ev s' x => ?_
  refine hideL ?_; intro gg4
  obtain ⟨hp, m', e', h', tk, rfl, rfl, hm, F, hE⟩ := x
  k_unfold
  have keepF : ∀ b ∈ FR, ∀ o, s.heap.get? b = some o → hp.get? b = some o := fun b hb o e => F.keep b o (hideAll_get _ e (hFo b hb))
  have hff : hp.FunFrames (hideAll hp FR) outer := hide_frames hFF hF keepF
  refine hideL ?_; intro gg5
  obtain ⟨oL, esL, epL, hL, hLd, hLr⟩ := F.ns
  k_unfold
  have hall : hp.FunFrames (hideAll hp (s.heap.objs.size :: FR)) (envOf qual scope s.heap.objs.size f cdv :: outer) := by
    refine ⟨by show scope.kind ≠ .module; rw [hk]; decide, ⟨s.heap.objs.size, oL, rfl, hideAll_none _ (.head _), hL, fun vs q => by rw [hLd] at q; cases q⟩, ff_mono hff fun b o e => ?_⟩
    refine hideAll_get _ (of_hideAll _ e) fun hb => ?_
    rw [hideAll_none _ (.tail _ hb)] at e; cases e
  refine wpAny_leaves_madeW (base := hideAll hp (s.heap.objs.size :: FR)) (h := hp) (outer := outer) (cls := .type "StopIteration") (args := []) (Around.frames_deeper hfr) rfl (fun b o e => of_hideAll _ e) hall ⟨hm.keeps, hm.new, hm.there⟩ fun h'' t x1 _ _ x4 => ?_
  refine hE h'' tk (fun b o h1 h2 e => x1.1 b o (hideAll_get _ e fun hb => ?_)) x1.there ((Heap.UpToSlots.of_keeps hm.keeps).trans x4)
  rcases List.mem_cons.mp hb with hb | hb
  · exact h1 hb
  · exact h2 hb
end TB3
section TB4
open PySem PySem.W PyProof.Rows PySem.Calls
set_option maxHeartbeats 4000000

inductive TurnP (s : Shared) (h₀ : Heap) (L I : Addr) (oI : Obj) (P : (Str → Option Value) → List (Addr × Obj) → Prop) (f : Flow) (s₂ : Shared) : Prop where
  | mk (hf : f = .next ∨ f = .cont) (h' : Heap) (tk' : Nat) (m₂ : Str → Option Value) (n₂ : List (Addr × Obj)) (e : s₂ = { s with heap := h', toks := tk' }) (F : Fr h₀ L h' m₂) (N : News h₀ L h' ((I, oI) :: n₂)) (ne : ∀ p ∈ n₂, p.1 ≠ I) (p : P m₂ n₂)
inductive IterP (s : Shared) (h₀ : Heap) (L : Addr) (P : Addr → Addr → (Str → Option Value) → List (Addr × Obj) → Prop) (v : Value) (s₁ : Shared) : Prop where
  | mk (l : Addr) (h : Heap) (tk : Nat) (m : Str → Option Value) (news : List (Addr × Obj)) (e : v = .ref l) (es : s₁ = { s with heap := h, toks := tk }) (F : Fr h₀ L h m) (N : News h₀ L h news) (p : P l h.objs.size m news)
inductive LoopP (s : Shared) (h₀ : Heap) (L I : Addr) (P : Nat → (Str → Option Value) → List (Addr × Obj) → Prop) (R : Heap → Obj → Nat → Prop) (z n : Nat) (s' : Shared) : Prop where
  | mk (h : Heap) (tk : Nat) (m' : Str → Option Value) (n' : List (Addr × Obj)) (i : Nat) (oI : Obj) (e : s' = { s with heap := h, toks := tk }) (F : Fr h₀ L h m') (N : News h₀ L h ((I, oI) :: n')) (ne : ∀ p ∈ n', p.1 ≠ I) (p : P i m' n') (r : R h oI i) (hi : i ≤ z) (en : n = z + 1 - i)
theorem for_list3 {prog : Program} {w : World} {A : Around} {s : Shared} {env : Env} {x : Str} {px pos : Pos} {iter : Expr} {body : List Stmt} {items : Array Value} {Q : Flow → Shared → Prop} {h₀ : Heap} 
    (P : Addr → Addr → Nat → (Str → Option Value) → List (Addr × Obj) → Prop)
    (hh : A.handled = none)
    (isL : ∀ l B i m' n' h, P l B i m' n' → Fr h₀ env.locals h m' → News h₀ env.locals h n' → h.IsList l items)
    (hiter : wpAny (model prog w) A (eval iter env) (IterP s h₀ env.locals (fun l B m nw => P l B 0 m nw)) noE s)
    (step : ∀ l i v m₁ n₁ h tk I oI, items[i]? = some v → P l I i m₁ n₁ → (∀ p ∈ n₁, p.1 ≠ I) → Fr h₀ env.locals h m₁ → News h₀ env.locals h ((I, oI) :: n₁) →
      wpAny (model prog w) A (storeName env x v) (fun _ s₁ => wpAny (model prog w) A (execs body env) (TurnP s h₀ env.locals I oI (P l I (i + 1))) noE s₁) noE { s with heap := h, toks := tk })
    (fin : ∀ l B h tk m' n', Fr h₀ env.locals h m' → News h₀ env.locals h n' → P l B items.size m' n' → Q .next { s with heap := h, toks := tk })
    (hs : ∀ x, foldedSetIterable iter env x = pure x) :
    wpAny (model prog w) A (exec (.For (.Name x px) iter body [] pos) env) Q noE s := by
  refine wpAny_For (wpAny_mono hiter (fun v s₁ h₁ => ?_) fun _ _ x => x) hs
  refine hideL ?_; intro gg1
  obtain ⟨l, hq, tk₁, m, news, rfl, rfl, F, N, h0⟩ := h₁
  k_unfold
  refine wpAny_pyIter_list (isL l _ 0 m news hq h0 F N) ?_
  have newA : h₀.get? hq.objs.size = none := by
    cases e : h₀.get? hq.objs.size with
    | none => rfl
    | some o => exact absurd (Heap.lt_size (F.keep _ _ e)) (Nat.lt_irrefl _)
  refine codeAny_forLoop (R := fun r s' => match r with | .ok f => Q f s' | .error e => cameBackBy (model prog w) A env noE e s')
    (LoopP s h₀ env.locals hq.objs.size (fun i m' n' => P l hq.objs.size i m' n') (fun _ oI i => oI.cls = .type "list_iterator" ∧ oI.data = .fields #[.ref l, .int (i : Nat) 0]) items.size) ?_ (items.size + 1)
    ⟨_, _, m, news, 0, { cls := .type "list_iterator", data := .fields #[.ref l, .int 0 0] }, rfl, F.push _, ?_, fun p hp => Nat.ne_of_lt (Heap.lt_size (N p hp).1), h0, ⟨rfl, rfl⟩, Nat.zero_le _, rfl⟩
  · rintro n s' hp2_2
    refine hideL ?_; intro gg2
    obtain ⟨h, tk, m', n', i, oI, rfl, F', N', hne, hP, ⟨hc, hd⟩, hi, rfl⟩ := hp2_2
    k_unfold
    have hI := N' _ (.head _)
    have Nt : News h₀ env.locals h n' := fun p hp => N' p (.tail _ hp)
    have hit : h.IsListIter hq.objs.size l i := ⟨oI, hI.1, hc, hd⟩
    have hl := isL l _ i m' n' h hP F' Nt
    cases hv : items[i]? with
    | none =>
      have hsz : i = items.size := Nat.le_antisymm hi (by simpa using hv)
      refine wpAny_pyNext_list_end hh hit hl hv fun h₁ he₁ => wpAny_execs_nil ?_
      refine fin l _ h₁ tk m' n' ⟨F'.ns.extBut he₁ (Ne.symm hI.2.1), fun b o e => he₁ b o (fun z => by rw [z, hI.2.2] at e; cases e) (F'.keep b o e), F'.above⟩ (fun p hp => ?_) (hsz ▸ hP)
      exact ⟨he₁ _ _ (hne p hp) (Nt p hp).1, (Nt p hp).2⟩
    | some v =>
      have hlt : i < items.size := (Array.getElem?_eq_some_iff.mp hv).1
      refine wpAny_pyNext_list_item hit hl hv fun h₁ hit₁ hs₁ => ?_
      refine hideL ?_; intro gg3
      obtain ⟨oI', hI', hc', hd'⟩ := hit₁
      k_unfold
      have F1 : Fr h₀ env.locals h₁ m' := ⟨F'.ns.sameBut hs₁ (Ne.symm hI.2.1), fun b o e => (hs₁.2 b (fun z => by rw [z, hI.2.2] at e; cases e)).trans (F'.keep b o e), F'.above⟩
      have N1 : News h₀ env.locals h₁ ((hq.objs.size, oI') :: n') := List.forall_mem_cons.mpr ⟨⟨hI', hI.2⟩, fun p hp => ⟨(hs₁.2 _ (hne p hp)).trans (Nt p hp).1, (Nt p hp).2⟩⟩
      refine wpAny_assign_Name ?_
      refine wpAny_mono (step l i v m' n' h₁ _ _ oI' hv hP hne F1 N1) (fun _ s₂ h₂ => wpAny_mono h₂ (fun f s₃ h₃ => ?_) fun _ _ z => z.elim) fun _ _ z => z.elim
      refine hideL ?_; intro gg4
      obtain ⟨hf, h', tk', m₂, n₂, rfl, F3, N3, hne3, hP3⟩ := h₃
      k_unfold
      have : ∃ m, m < items.size + 1 - i ∧ LoopP s h₀ env.locals hq.objs.size (fun i m' n' => P l hq.objs.size i m' n') (fun _ oI i => oI.cls = .type "list_iterator" ∧ oI.data = .fields #[.ref l, .int (i : Nat) 0]) items.size m { s with heap := h', toks := tk' } :=
        ⟨items.size + 1 - (i + 1), by (first | exact (lin2 4 [_, _, _, _] 0 (.a (.v 0) (.k 1)) (.v 1) 1 (.a (.v 0) (.a (.v 2) (.k 1))) (.a (.v 3) (.k 1)) 1 (.a (.v 3) (.k 1)) (.a (.v 1) (.v 2)) (Nat.le_of_eq (Nat.sub_add_cancel (lin1 2 [_, _] 0 (.a (.v 0) (.k 1)) (.a (.v 1) (.k 1)) 1 (.a (.v 0) (.k 1)) (.v 1) hlt rfl (Eq.refl true)))) (Nat.le_add_of_sub_le (Nat.le_refl _)) rfl (Eq.refl true)) | omega), h', tk', m₂, n₂, i + 1, oI', rfl, F3, N3, hne3, hP3, ⟨hc', hd'⟩, hlt, rfl⟩
      rcases hf with rfl | rfl <;> exact this
  · exact List.forall_mem_cons.mpr ⟨⟨Heap.get?_push_size _ rfl, (by obtain ⟨oL, _, _, hL, _⟩ := F.ns; exact Nat.ne_of_gt (Heap.lt_size hL)), newA⟩, fun p hp => ⟨Heap.get?_push_of_some _ (N p hp).1, (N p hp).2⟩⟩
theorem for_list2 {prog : Program} {w : World} {A : Around} {s : Shared} {env : Env} {x : Str} {px pos : Pos} {iter : Expr} {body : List Stmt} {items : Array Value} {Q : Flow → Shared → Prop} {h₀ : Heap} 
    (P : Addr → Addr → Nat → (Str → Option Value) → List (Addr × Obj) → Prop)
    (hh : A.handled = none) (hx : env.kindOf x = some .local) (hp : (env.scope.kind == .class || (env.scope.kind == .module && env.locals != env.globals)) = false)
    (isL : ∀ l B i m' n' h, P l B i m' n' → Fr h₀ env.locals h m' → News h₀ env.locals h n' → h.IsList l items)
    (hiter : wpAny (model prog w) A (eval iter env) (IterP s h₀ env.locals (fun l B m nw => P l B 0 m nw)) noE s)
    (step : ∀ l i v m₁ n₁ h tk I oI, items[i]? = some v → P l I i m₁ n₁ → (∀ p ∈ n₁, p.1 ≠ I) → Fr h₀ env.locals h (fun y => if y = x then some v else m₁ y) → News h₀ env.locals h ((I, oI) :: n₁) →
      wpAny (model prog w) A (execs body env) (TurnP s h₀ env.locals I oI (P l I (i + 1))) noE { s with heap := h, toks := tk })
    (fin : ∀ l B h tk m' n', Fr h₀ env.locals h m' → News h₀ env.locals h n' → P l B items.size m' n' → Q .next { s with heap := h, toks := tk })
    (hs : ∀ x, foldedSetIterable iter env x = pure x) :
    wpAny (model prog w) A (exec (.For (.Name x px) iter body [] pos) env) Q noE s :=
  for_list3 P hh isL hiter (fun l i v m₁ n₁ h tk I oI hv hP hne F N => wpAny_storeName_local hx F.ns (fun h₂ hn₂ hs₂ => step l i v m₁ n₁ h₂ _ I oI hv hP hne (F.set hn₂ hs₂) (N.set hs₂)) hp) fin hs
theorem for_list {prog : Program} {w : World} {A : Around} {s : Shared} {env : Env} {x : Str} {px pos : Pos} {iter : Expr} {body : List Stmt} {l : Addr} {items : Array Value} {Q : Flow → Shared → Prop} {h₀ : Heap} {m : Str → Option Value} {news : List (Addr × Obj)}
    (P : Nat → (Str → Option Value) → List (Addr × Obj) → Prop)
    (hh : A.handled = none) (hx : env.kindOf x = some .local) (hp : (env.scope.kind == .class || (env.scope.kind == .module && env.locals != env.globals)) = false)
    (F : Fr h₀ env.locals s.heap m) (N : News h₀ env.locals s.heap news) (h0 : P 0 m news)
    (isL : ∀ i m' n' h, P i m' n' → Fr h₀ env.locals h m' → News h₀ env.locals h n' → h.IsList l items)
    (hiter : wpAny (model prog w) A (eval iter env) (fun v s₁ => v = .ref l ∧ ∃ tk, s₁ = { s with toks := tk }) noE s)
    (step : ∀ i v m₁ n₁ h tk I oI, items[i]? = some v → P i m₁ n₁ → (∀ b o, s.heap.get? b = some o → b < I) → (∀ p ∈ n₁, p.1 ≠ I) → Fr h₀ env.locals h (fun y => if y = x then some v else m₁ y) → News h₀ env.locals h ((I, oI) :: n₁) →
      wpAny (model prog w) A (execs body env) (TurnP s h₀ env.locals I oI (P (i + 1))) noE { s with heap := h, toks := tk })
    (fin : ∀ h tk m' n', Fr h₀ env.locals h m' → News h₀ env.locals h n' → P items.size m' n' → Q .next { s with heap := h, toks := tk })
    (hs : ∀ x, foldedSetIterable iter env x = pure x) :
    wpAny (model prog w) A (exec (.For (.Name x px) iter body [] pos) env) Q noE s :=
  for_list2 (fun l' B i m n => l' = l ∧ s.heap.objs.size ≤ B ∧ P i m n) hh hx hp (fun l' B i m' n' h q F N => q.1 ▸ isL i m' n' h q.2.2 F N)
    (wpAny_mono hiter (fun v s₁ q => by
      refine hideL ?_; intro gg5
      obtain ⟨rfl, tk, rfl⟩ := q
      k_unfold
      exact ⟨l, _, tk, m, news, rfl, rfl, F, N, rfl, Nat.le_refl _, h0⟩) fun _ _ z => z)
    (fun l' i v m₁ n₁ h tk I oI hv q hne F N => wpAny_mono (step i v m₁ n₁ h tk I oI hv q.2.2 (fun b o e => Nat.lt_of_lt_of_le (Heap.lt_size e) q.2.1) hne F N) (fun f s₂ t => by
      refine hideL ?_; intro gg6
      obtain ⟨hf, h', tk', m₂, n₂, e, F', N', ne, p⟩ := t
      k_unfold
      exact ⟨hf, h', tk', m₂, n₂, e, F', N', ne, q.1, q.2.1, p⟩) fun _ _ z => z)
    (fun l' B h tk m' n' F N q => fin h tk m' n' F N q.2.2) hs
end TB4
section TB10
open PySem PySem.W PyProof.Rows PySem.Calls
set_option maxHeartbeats 4000000
end TB10
section TB11
open PySem PySem.W PyProof.Rows PySem.Calls
set_option maxHeartbeats 4000000

theorem for_range3 {prog : Program} {w : World} {A : Around} {s : Shared} {env : Env} {x : Str} {px pos : Pos} {iter : Expr} {body : List Stmt} {n : Nat} {Q : Flow → Shared → Prop} {h₀ : Heap} 
    (P : Addr → Nat → (Str → Option Value) → List (Addr × Obj) → Prop)
    (hh : A.handled = none)
    (hn : n ≤ 1000)
    (hiter : wpAny (model prog w) A (eval iter env) (fun v s₁ => ∃ l h tk m news t u z, v = .ref l ∧ s₁ = { s with heap := h, toks := tk } ∧ IsRange h l 0 (n : Nat) 1 t u z ∧ Fr h₀ env.locals h m ∧ News h₀ env.locals h news ∧ P h.objs.size 0 m news) noE s)
    (step : ∀ i t m₁ n₁ h tk I oI, i < n → P I i m₁ n₁ → (∀ p ∈ n₁, p.1 ≠ I) → Fr h₀ env.locals h m₁ → News h₀ env.locals h ((I, oI) :: n₁) →
      wpAny (model prog w) A (storeName env x (.int (i : Nat) t)) (fun _ s₁ => wpAny (model prog w) A (execs body env) (TurnP s h₀ env.locals I oI (P I (i + 1))) noE s₁) noE { s with heap := h, toks := tk })
    (fin : ∀ B h tk m' n', Fr h₀ env.locals h m' → News h₀ env.locals h n' → P B n m' n' → Q .next { s with heap := h, toks := tk })
    (hs : ∀ x, foldedSetIterable iter env x = pure x) :
    wpAny (model prog w) A (exec (.For (.Name x px) iter body [] pos) env) Q noE s := by
  refine wpAny_For (wpAny_mono hiter (fun v s₁ h₁ => ?_) fun _ _ x => x) hs
  refine hideL ?_; intro gg1
  obtain ⟨l, hq, tk₁, m, news, t, u, z, rfl, rfl, hr, F, N, h0⟩ := h₁
  k_unfold
  refine wpAny_pyIter_range hr (small_one (by decide) (by decide) (by (lia)) (by omega)) ?_
  have newA : h₀.get? hq.objs.size = none := by
    cases e : h₀.get? hq.objs.size with
    | none => rfl
    | some o => exact absurd (Heap.lt_size (F.keep _ _ e)) (Nat.lt_irrefl _)
  have hrs : Builtin.Range.rangeSize 0 (n : Nat) 1 = (n : Int) := by rw [rangeSize_one]; split <;> (lia)
  refine codeAny_forLoop (R := fun r s' => match r with | .ok f => Q f s' | .error e => cameBackBy (model prog w) A env noE e s')
    (LoopP s h₀ env.locals hq.objs.size (fun i m' n' => P hq.objs.size i m' n') (fun h _ i => IsRangeIter h hq.objs.size (i : Nat) ((n : Int) - (i : Nat)) 1) n) ?_ (n + 1)
    ⟨_, _, m, news, 0, { cls := .type "range_iterator", data := .fields #[rawInt 0, rawInt (Builtin.Range.rangeSize 0 (n : Nat) 1), rawInt 1] }, rfl, F.push _, ?_, fun p hp => Nat.ne_of_lt (Heap.lt_size (N p hp).1), h0, by rw [hrs]; simpa [IsRangeIter] using Heap.get?_push_size hq rfl, Nat.zero_le _, rfl⟩
  · rintro k s' hp2_2
    refine hideL ?_; intro gg2
    obtain ⟨h, tk, m', n', i, oI, rfl, F', N', hne, hP, hit, hi, rfl⟩ := hp2_2
    k_unfold
    have hI := N' _ (.head _)
    have Nt : News h₀ env.locals h n' := fun p hp => N' p (.tail _ hp)
    by_cases hlt : i < n
    · refine wpAny_pyNext_range_item hit (by (lia)) fun h₁ hit₁ hs₁ => ?_
      have F1 : Fr h₀ env.locals h₁ m' := ⟨F'.ns.sameBut hs₁ (Ne.symm hI.2.1), fun b o e => (hs₁.2 b (fun z => by rw [z, hI.2.2] at e; cases e)).trans (F'.keep b o e), F'.above⟩
      have hit₂ : IsRangeIter h₁ hq.objs.size ((i + 1 : Nat) : Int) ((n : Int) - ((i + 1 : Nat) : Int)) 1 := by
        rw [show (((i + 1 : Nat)) : Int) = (i : Int) + 1 by (lia), show (n : Int) - ((i : Int) + 1) = (n : Int) - (i : Int) - 1 by (lia)]; exact hit₁
      refine hideL ?_; intro gg3
      obtain ⟨oI', hI'⟩ : ∃ oI', h₁.get? hq.objs.size = some oI' := ⟨_, hit₂⟩
      k_unfold
      have N1 : News h₀ env.locals h₁ ((hq.objs.size, oI') :: n') := List.forall_mem_cons.mpr ⟨⟨hI', hI.2⟩, fun p hp => ⟨(hs₁.2 _ (hne p hp)).trans (Nt p hp).1, (Nt p hp).2⟩⟩
      refine wpAny_assign_Name ?_
      refine wpAny_mono (step i _ m' n' h₁ _ _ oI' hlt hP hne F1 N1) (fun _ s₂ h₂ => wpAny_mono h₂ (fun f s₃ h₃ => ?_) fun _ _ z => z.elim) fun _ _ z => z.elim
      refine hideL ?_; intro gg4
      obtain ⟨hf, h', tk', m₂, n₂, rfl, F3, N3, hne3, hP3⟩ := h₃
      k_unfold
      have hit₃ : IsRangeIter h' hq.objs.size ((i + 1 : Nat) : Int) ((n : Int) - ((i + 1 : Nat) : Int)) 1 := by
        have z1 : h₁.get? hq.objs.size = some _ := hit₂
        have z2 := (N3 _ (.head _)).1
        show h'.get? _ = some _
        rw [z2, ← z1, hI']
      have : ∃ m, m < n + 1 - i ∧ LoopP s h₀ env.locals hq.objs.size (fun i m' n' => P hq.objs.size i m' n') (fun h _ i => IsRangeIter h hq.objs.size (i : Nat) ((n : Int) - (i : Nat)) 1) n m { s with heap := h', toks := tk' } :=
        ⟨n + 1 - (i + 1), by (first | exact (lin2 4 [_, _, _, _] 0 (.a (.v 0) (.k 1)) (.v 1) 1 (.a (.v 0) (.a (.v 2) (.k 1))) (.a (.v 3) (.k 1)) 1 (.a (.v 3) (.k 1)) (.a (.v 1) (.v 2)) (Nat.le_of_eq (Nat.sub_add_cancel (lin1 2 [_, _] 0 (.a (.v 0) (.k 1)) (.a (.v 1) (.k 1)) 1 (.a (.v 0) (.k 1)) (.v 1) hlt rfl (Eq.refl true)))) (Nat.le_add_of_sub_le (Nat.le_refl _)) rfl (Eq.refl true)) | omega), h', tk', m₂, n₂, i + 1, oI', rfl, F3, N3, hne3, hP3, hit₃, hlt, rfl⟩
      rcases hf with rfl | rfl <;> exact this
    · have hin : i = n := by (first | exact (Nat.le_antisymm (lin1 2 [_, _] 0 (.v 0) (.v 1) 1 (.v 0) (.v 1) hi rfl (Eq.refl true)) (lin1 2 [_, _] 0 (.v 0) (.v 1) 1 (.v 0) (.v 1) (Nat.not_lt.mp hlt) rfl (Eq.refl true))) | omega)
      subst hin
      refine wpAny_pyNext_range_end hh hit (by (lia)) fun h₁ he₁ => wpAny_execs_nil ?_
      refine fin _ h₁ tk m' n' ⟨F'.ns.extBut he₁ (Ne.symm hI.2.1), fun b o e => he₁ b o (fun z => by rw [z, hI.2.2] at e; cases e) (F'.keep b o e), F'.above⟩ (fun p hp => ?_) hP
      exact ⟨he₁ _ _ (hne p hp) (Nt p hp).1, (Nt p hp).2⟩
  · exact List.forall_mem_cons.mpr ⟨⟨Heap.get?_push_size _ rfl, (by obtain ⟨oL, _, _, hL, _⟩ := F.ns; exact Nat.ne_of_gt (Heap.lt_size hL)), newA⟩, fun p hp => ⟨Heap.get?_push_of_some _ (N p hp).1, (N p hp).2⟩⟩

open LCg
inductive CompP (s : Shared) (h₀ : Heap) (L : Addr) (m : Str → Option Value) (I : Addr) (oI : Obj) (C : Addr) (oC : Obj) (D : Addr) (ys : List Value) (S : List (Addr × Obj) → Prop) (P : List Value → List (Addr × Obj) → Prop) (y : Value) (s₂ : Shared) : Prop where
  | mk (h' : Heap) (tk' : Nat) (news' : List (Addr × Obj)) (e : s₂ = { s with heap := h', toks := tk' }) (F : Fr h₀ L h' m) (N : News h₀ L h' ((I, oI) :: (C, oC) :: (D, LCg.lst ys) :: news')) (off : Off3 I C D news') (hS : S news') (p : P (ys ++ [y]) news')
theorem comp_inv {prog : Program} {w : World} {A : Around} {h₀ : Heap} {L : Addr} {m : Str → Option Value} {env : Env} {elt : Expr} {x : Str} {scope : Scope} {cl : List (Str × Addr)} {s : Shared} {S : List (Addr × Obj) → Prop} {R : Nat → Value → Prop} {Fin : List Value → List (Addr × Obj) → Prop} {n : Nat}
    (P : Nat → List Value → List (Addr × Obj) → Prop)
    (step : ∀ i v ys news I oI C oC D m₂ h tk (E' : Value → Shared → Prop), i < n → R i v → P i ys news → NsObj oC m₂ → m₂ x = some v → Fr h₀ L h m → News h₀ L h ((I, oI) :: (C, oC) :: (D, LCg.lst ys) :: news) → Off3 I C D news → ((@Ne Nat I C) ∧ (@Ne Nat I D) ∧ (@Ne Nat C D)) →
      wpAny (model prog w) A (eval elt (compEnvC scope cl C env)) (CompP s h₀ L m I oI C oC D ys S (P (i + 1))) E' { s with heap := h, toks := tk })
    (fin : ∀ ys news, P n ys news → Fin ys news) :
    ∀ k i ys news, i + k = n → P i ys news → CompRest prog w A h₀ L m env elt x scope cl s S R Fin k i ys news := by
  intro k
  induction k with
  | zero => intro i ys news hi hP; exact CompRest.zero (fin ys news (by rw [← hi, Nat.add_zero]; exact hP))
  | succ k ih =>
    intro i ys news hi hP
    refine CompRest.succ fun v I oI C oC D m₂ h tk E' hv hC hx F N off ne => ?_
    refine wpAny_mono (step i v ys news I oI C oC D m₂ h tk E' (by (first | exact (lin1 3 [_, _, _] 0 (.a (.v 0) (.k 1)) (.v 1) 1 (.a (.v 0) (.a (.v 2) (.k 1))) (.v 1) (Nat.le_of_eq hi) rfl (Eq.refl true)) | omega)) hv hP hC hx F N off ne) (fun y s₂ h₂ => ?_) fun _ _ z => z
    refine hideL ?_; intro gg5
    obtain ⟨h', tk', news', rfl, F', N', off', hS, hP'⟩ := h₂
    k_unfold
    exact ⟨h', tk', news', rfl, F', N', off', hS, ih (i + 1) (ys ++ [y]) news' (by (first | exact (Nat.le_antisymm (lin1 3 [_, _, _] 0 (.a (.a (.v 0) (.k 1)) (.v 1)) (.v 2) 1 (.a (.v 0) (.a (.v 1) (.k 1))) (.v 2) (Nat.le_of_eq hi) rfl (Eq.refl true)) (lin1 3 [_, _, _] 0 (.v 0) (.a (.a (.v 1) (.k 1)) (.v 2)) 1 (.v 0) (.a (.v 1) (.a (.v 2) (.k 1))) (Nat.le_of_eq hi.symm) rfl (Eq.refl true))) | omega)) hP'⟩
end TB11
section TZ1
open PySem PySem.W PyProof.Rows PySem.Calls
set_option maxHeartbeats 8000000
noncomputable def lawDef : List Stmt × Scope := match PySem.Challenge.pw_aa0007_01.main.body.getLast? with
  | some (.FunctionDef _ _ body _ _ _ scope _ _ _) => (body, scope)
  | _ => ([], default)
noncomputable def lawSt (i : Nat) : Stmt := lawDef.1.getD i default
noncomputable def lawScope : Scope := lawDef.2
end TZ1
section TQ0
open PySem PySem.W PyProof.Rows PySem.Calls
set_option maxHeartbeats 8000000
noncomputable abbrev lawEnv (L fa : Addr) (cd : Value) : Env := envOfC (Str.ofString "law") lawScope L fa cd
set_option genInjectivity false in
set_option genSizeOf false in
structure LN where
  script : Option Value
  numbers : Option Value
  folders : Option Value
  files : Option Value
  k : Option Value
  way : Option Value
  begn : Option Value
  letter : Option Value
  near : Option Value
  seen : Option Value
  word : Option Value
  close : Option Value
  plain : Option Value
  wide : Option Value
  told : Option Value
  due : Option Value
noncomputable abbrev lm (n : LN) : Str → Option Value := fun y => if y = Str.ofString "script" then n.script else if y = Str.ofString "numbers" then n.numbers else if y = Str.ofString "folders" then n.folders else if y = Str.ofString "files" then n.files else if y = Str.ofString "k" then n.k else if y = Str.ofString "way" then n.way else if y = Str.ofString "begin" then n.begn else if y = Str.ofString "letter" then n.letter else if y = Str.ofString "near" then n.near else if y = Str.ofString "seen" then n.seen else if y = Str.ofString "word" then n.word else if y = Str.ofString "close" then n.close else if y = Str.ofString "plain" then n.plain else if y = Str.ofString "wide" then n.wide else if y = Str.ofString "told" then n.told else if y = Str.ofString "due" then n.due else none
noncomputable def lmPick : List Str → List (Option Value) → Str → Option Value
  | a :: as, v :: vs, y => if y = a then v else lmPick as vs y
  | _, _, _ => none
theorem lmPick_set : ∀ (as : List Str) (vs : List (Option Value)) (i : Nat) (a : Str) (v : Option Value) (y : Str), as.length = vs.length → as[i]? = some a → a ∉ as.take i → (if y = a then v else lmPick as vs y) = lmPick as (vs.set i v) y
  | [], _, _, _, _, _, _, h, _ => by simp at h
  | b :: as, [], _, _, _, _, h, _, _ => by simp at h
  | b :: as, w :: vs, 0, a, v, y, _, h, _ => by
    obtain rfl : b = a := by simpa using h
    show (if y = b then v else if y = b then w else lmPick as vs y) = if y = b then v else lmPick as vs y
    split <;> rfl
  | b :: as, w :: vs, i + 1, a, v, y, hl, h, hn => by
    rw [List.take_succ_cons, List.mem_cons, not_or] at hn
    have ih := lmPick_set as vs i a v y (by simpa using hl) (by simpa using h) hn.2
    show (if y = a then v else if y = b then w else lmPick as vs y) = if y = b then w else lmPick as (vs.set i v) y
    by_cases e : y = b
    · rw [if_pos e, if_pos e, if_neg (fun z : y = a => hn.1 (z.symm.trans e))]
    · rw [if_neg e, if_neg e]; exact ih
noncomputable abbrev lmNames : List Str := [Str.ofString "script", Str.ofString "numbers", Str.ofString "folders", Str.ofString "files", Str.ofString "k", Str.ofString "way", Str.ofString "begin", Str.ofString "letter", Str.ofString "near", Str.ofString "seen", Str.ofString "word", Str.ofString "close", Str.ofString "plain", Str.ofString "wide", Str.ofString "told", Str.ofString "due"]
noncomputable abbrev lmVals (n : LN) : List (Option Value) := [n.script, n.numbers, n.folders, n.files, n.k, n.way, n.begn, n.letter, n.near, n.seen, n.word, n.close, n.plain, n.wide, n.told, n.due]
theorem lm_script (n : LN) (v : Option Value) : (fun y => if y = Str.ofString "script" then v else lm n y) = lm { n with script := v } := funext fun y => lmPick_set lmNames (lmVals n) 0 (Str.ofString "script") v y rfl rfl (by decide +kernel)
theorem lmy_script (n : LN) (v : Option Value) (y : Str) : (if y = Str.ofString "script" then v else lm n y) = lm { n with script := v } y := congrFun (lm_script n v) y
theorem lm_numbers (n : LN) (v : Option Value) : (fun y => if y = Str.ofString "numbers" then v else lm n y) = lm { n with numbers := v } := funext fun y => lmPick_set lmNames (lmVals n) 1 (Str.ofString "numbers") v y rfl rfl (by decide +kernel)
theorem lmy_numbers (n : LN) (v : Option Value) (y : Str) : (if y = Str.ofString "numbers" then v else lm n y) = lm { n with numbers := v } y := congrFun (lm_numbers n v) y
theorem lm_folders (n : LN) (v : Option Value) : (fun y => if y = Str.ofString "folders" then v else lm n y) = lm { n with folders := v } := funext fun y => lmPick_set lmNames (lmVals n) 2 (Str.ofString "folders") v y rfl rfl (by decide +kernel)
theorem lmy_folders (n : LN) (v : Option Value) (y : Str) : (if y = Str.ofString "folders" then v else lm n y) = lm { n with folders := v } y := congrFun (lm_folders n v) y
theorem lm_files (n : LN) (v : Option Value) : (fun y => if y = Str.ofString "files" then v else lm n y) = lm { n with files := v } := funext fun y => lmPick_set lmNames (lmVals n) 3 (Str.ofString "files") v y rfl rfl (by decide +kernel)
theorem lmy_files (n : LN) (v : Option Value) (y : Str) : (if y = Str.ofString "files" then v else lm n y) = lm { n with files := v } y := congrFun (lm_files n v) y
theorem lm_k (n : LN) (v : Option Value) : (fun y => if y = Str.ofString "k" then v else lm n y) = lm { n with k := v } := funext fun y => lmPick_set lmNames (lmVals n) 4 (Str.ofString "k") v y rfl rfl (by decide +kernel)
theorem lmy_k (n : LN) (v : Option Value) (y : Str) : (if y = Str.ofString "k" then v else lm n y) = lm { n with k := v } y := congrFun (lm_k n v) y
theorem lm_way (n : LN) (v : Option Value) : (fun y => if y = Str.ofString "way" then v else lm n y) = lm { n with way := v } := funext fun y => lmPick_set lmNames (lmVals n) 5 (Str.ofString "way") v y rfl rfl (by decide +kernel)
theorem lmy_way (n : LN) (v : Option Value) (y : Str) : (if y = Str.ofString "way" then v else lm n y) = lm { n with way := v } y := congrFun (lm_way n v) y
theorem lm_begn (n : LN) (v : Option Value) : (fun y => if y = Str.ofString "begin" then v else lm n y) = lm { n with begn := v } := funext fun y => lmPick_set lmNames (lmVals n) 6 (Str.ofString "begin") v y rfl rfl (by decide +kernel)
theorem lmy_begn (n : LN) (v : Option Value) (y : Str) : (if y = Str.ofString "begin" then v else lm n y) = lm { n with begn := v } y := congrFun (lm_begn n v) y
theorem lm_letter (n : LN) (v : Option Value) : (fun y => if y = Str.ofString "letter" then v else lm n y) = lm { n with letter := v } := funext fun y => lmPick_set lmNames (lmVals n) 7 (Str.ofString "letter") v y rfl rfl (by decide +kernel)
theorem lmy_letter (n : LN) (v : Option Value) (y : Str) : (if y = Str.ofString "letter" then v else lm n y) = lm { n with letter := v } y := congrFun (lm_letter n v) y
theorem lm_near (n : LN) (v : Option Value) : (fun y => if y = Str.ofString "near" then v else lm n y) = lm { n with near := v } := funext fun y => lmPick_set lmNames (lmVals n) 8 (Str.ofString "near") v y rfl rfl (by decide +kernel)
theorem lmy_near (n : LN) (v : Option Value) (y : Str) : (if y = Str.ofString "near" then v else lm n y) = lm { n with near := v } y := congrFun (lm_near n v) y
theorem lm_seen (n : LN) (v : Option Value) : (fun y => if y = Str.ofString "seen" then v else lm n y) = lm { n with seen := v } := funext fun y => lmPick_set lmNames (lmVals n) 9 (Str.ofString "seen") v y rfl rfl (by decide +kernel)
theorem lmy_seen (n : LN) (v : Option Value) (y : Str) : (if y = Str.ofString "seen" then v else lm n y) = lm { n with seen := v } y := congrFun (lm_seen n v) y
theorem lm_word (n : LN) (v : Option Value) : (fun y => if y = Str.ofString "word" then v else lm n y) = lm { n with word := v } := funext fun y => lmPick_set lmNames (lmVals n) 10 (Str.ofString "word") v y rfl rfl (by decide +kernel)
theorem lmy_word (n : LN) (v : Option Value) (y : Str) : (if y = Str.ofString "word" then v else lm n y) = lm { n with word := v } y := congrFun (lm_word n v) y
theorem lm_close (n : LN) (v : Option Value) : (fun y => if y = Str.ofString "close" then v else lm n y) = lm { n with close := v } := funext fun y => lmPick_set lmNames (lmVals n) 11 (Str.ofString "close") v y rfl rfl (by decide +kernel)
theorem lmy_close (n : LN) (v : Option Value) (y : Str) : (if y = Str.ofString "close" then v else lm n y) = lm { n with close := v } y := congrFun (lm_close n v) y
theorem lm_plain (n : LN) (v : Option Value) : (fun y => if y = Str.ofString "plain" then v else lm n y) = lm { n with plain := v } := funext fun y => lmPick_set lmNames (lmVals n) 12 (Str.ofString "plain") v y rfl rfl (by decide +kernel)
theorem lmy_plain (n : LN) (v : Option Value) (y : Str) : (if y = Str.ofString "plain" then v else lm n y) = lm { n with plain := v } y := congrFun (lm_plain n v) y
theorem lm_wide (n : LN) (v : Option Value) : (fun y => if y = Str.ofString "wide" then v else lm n y) = lm { n with wide := v } := funext fun y => lmPick_set lmNames (lmVals n) 13 (Str.ofString "wide") v y rfl rfl (by decide +kernel)
theorem lmy_wide (n : LN) (v : Option Value) (y : Str) : (if y = Str.ofString "wide" then v else lm n y) = lm { n with wide := v } y := congrFun (lm_wide n v) y
theorem lm_told (n : LN) (v : Option Value) : (fun y => if y = Str.ofString "told" then v else lm n y) = lm { n with told := v } := funext fun y => lmPick_set lmNames (lmVals n) 14 (Str.ofString "told") v y rfl rfl (by decide +kernel)
theorem lmy_told (n : LN) (v : Option Value) (y : Str) : (if y = Str.ofString "told" then v else lm n y) = lm { n with told := v } y := congrFun (lm_told n v) y
theorem lm_due (n : LN) (v : Option Value) : (fun y => if y = Str.ofString "due" then v else lm n y) = lm { n with due := v } := funext fun y => lmPick_set lmNames (lmVals n) 15 (Str.ofString "due") v y rfl rfl (by decide +kernel)
theorem lmy_due (n : LN) (v : Option Value) (y : Str) : (if y = Str.ofString "due" then v else lm n y) = lm { n with due := v } y := congrFun (lm_due n v) y

noncomputable def IsL (o : Obj) : Prop := ∃ vs n, o = ({ cls := .type "list", data := .seq vs n } : Obj)
inductive Cells (base : Heap) (L : Addr) (h : Heap) (cp ch cr cf : Option Value) (W : List (Addr × Obj)) : Prop where
  | mk (o1 o2 o3 o4 : Obj) (d1 : o1.data = .cell cp) (d2 : o2.data = .cell ch) (d3 : o3.data = .cell cr) (d4 : o4.data = .cell cf) (N : News base L h ((L + 1 + 1 + 1 + 1, o4) :: (L + 1 + 1 + 1, o3) :: (L + 1 + 1, o2) :: (L + 1, o1) :: W))
structure LSt (base : Heap) (L : Addr) (h : Heap) (n : LN) (cp ch cr cf : Option Value) (W : List (Addr × Obj)) : Prop where
  F : Fr base L h (lm n)
  c : Cells base L h cp ch cr cf W
  l : ∀ p ∈ W, IsL p.2
theorem lst_news {base h : Heap} {L : Addr} {pre X W : List (Addr × Obj)} {c1 c2 c3 c4 : Addr × Obj} (N : News base L h (pre ++ c4 :: c3 :: c2 :: c1 :: W)) (hX : ∀ q ∈ X, q ∈ pre) : News base L h (c4 :: c3 :: c2 :: c1 :: (X ++ W)) :=
  fmc (N _ (List.mem_append_right _ (.head _))) (fmc (N _ (List.mem_append_right _ (.tail _ (.head _)))) (fmc (N _ (List.mem_append_right _ (.tail _ (.tail _ (.head _))))) (fmc (N _ (List.mem_append_right _ (.tail _ (.tail _ (.tail _ (.head _)))))) (fun q hq => N q (List.mem_append.mpr ((List.mem_append.mp hq).imp (hX q) fun h => .tail _ (.tail _ (.tail _ (.tail _ h)))))))))
noncomputable abbrev NoC (L : Addr) (p : Addr × Obj) : Prop := (∀ v, p.2.data ≠ .cell v) ∨ @LT.lt Nat _ (L + 4) p.1
theorem IsL.noC {L : Addr} {p : Addr × Obj} (h : IsL p.2) : NoC L p := .inl fun v e => by obtain ⟨vs, n, q⟩ := h; rw [q] at e; cases e
theorem cell_apart {base h : Heap} {L c : Addr} {news : List (Addr × Obj)} {p : Addr × Obj} {o : Obj} {v : Option Value} (N : News base L h news) (hp : p ∈ news) (hc : (c, o) ∈ news) (hd : o.data = .cell v) (hcL : @LE.le Nat _ c (L + 4)) (hl : NoC L p) : p.1 ≠ c := by
  intro e
  rcases hl with hl | hl
  · have h1 := (N p hp).1
    have h2 := (N _ hc).1
    rw [e] at h1
    have h3 : p.2 = o := Option.some.inj (h1.symm.trans h2)
    exact hl v (by rw [h3]; exact hd)
  · have e' : @Eq Nat p.1 c := e
    (first | exact (ch3 0 0 1 0 1 0 0 0 hC hCD z (Eq.refl true)) | exact (ch2 1 0 0 0 1 0 hlt (Nat.le_of_eq this.symm) (Eq.refl true)) | exact (ch3 821 0 0 0 1 0 2 0 z0 hC hCD (Eq.refl true)) | exact (And.intro (lin0 1 [_] (.k 5) (.a (.v 0) (.a (.a (.a (.a (.a (.k 0) (.k 1)) (.k 1)) (.k 1)) (.k 1)) (.k 1))) rfl (Eq.refl true)) (lin1 1 [_] 0 (.a (.v 0) (.a (.a (.a (.a (.a (.k 0) (.k 1)) (.k 1)) (.k 1)) (.k 1)) (.k 1))) (.k 11) 1 (.v 0) (.k 6) (Nat.min_le_left _ _) rfl (Eq.refl true))) | exact (lin1 1 [_] 0 (.a (.a (.a (.k 0) (.k 1)) (.v 0)) (.k 1)) (.k 1000) 1 (.v 0) (.k 200) this rfl (Eq.refl true)) | exact (Nat.le_antisymm (lin1 2 [_, _] 0 (.v 0) (.v 1) 1 (.v 0) (.v 1) hc3 rfl (Eq.refl true)) (lin1 2 [_, _] 0 (.v 0) (.v 1) 1 (.v 0) (.v 1) this rfl (Eq.refl true))) | exact (lin2 2 [_, _] 0 (.a (.a (.v 0) (.v 1)) (.k 1)) (.k 900) 1 (.v 1) (.k 200) 1 (.v 0) (.k 1) h1 (Nat.le_of_eq this) rfl (Eq.refl true)) | exact (ch4 0 0 0 0 1 11 1000 0 0 0 (Nat.le_of_eq h1) h2 zi h3 (Eq.refl true)) | exact (ch4 0 0 0 0 1 11 1000 0 0 0 (Nat.le_of_eq h1) h2 zi z1000 (Eq.refl true)) | omega)
theorem st_place {M : Model} {A : Around} {E : Value → Shared → Prop} {s : Shared} {base : Heap} {L fa : Addr} {cd : Value} {m : Str → Option Value} {pre W : List (Addr × Obj)} {o1 o2 o3 o4 : Obj} {v₀ : Option Value} {v : Value} {Q : Unit → Shared → Prop}
    (F : Fr base L s.heap m) (N : News base L s.heap (pre ++ (L + 1 + 1 + 1 + 1, o4) :: (L + 1 + 1 + 1, o3) :: (L + 1 + 1, o2) :: (L + 1, o1) :: W)) (hd : o1.data = .cell v₀) (hpre : ∀ p ∈ pre, NoC L p) (hW : ∀ p ∈ W, IsL p.2)
    (h : ∀ h' o', Fr base L h' m → News base L h' (pre ++ (L + 1 + 1 + 1 + 1, o4) :: (L + 1 + 1 + 1, o3) :: (L + 1 + 1, o2) :: (L + 1, o') :: W) → o'.data = .cell (some v) → Q () { s with heap := h' }) :
    wpAny M A (storeName (lawEnv L fa cd) (Str.ofString "place") v) Q E s := by
  have mem : (L + 1, o1) ∈ pre ++ (L + 1 + 1 + 1 + 1, o4) :: (L + 1 + 1 + 1, o3) :: (L + 1 + 1, o2) :: (L + 1, o1) :: W := List.mem_append_right _ (by simp)
  have ap := fun p hp hl => cell_apart (p := p) N hp mem hd (by (first | exact (ch0 1 4 (Eq.refl true)) | exact (ch0 2 4 (Eq.refl true)) | exact (ch0 3 4 (Eq.refl true)) | exact (ch0 4 4 (Eq.refl true)) | omega)) hl
  refine stCN (own := pre ++ [(L + 1 + 1 + 1 + 1, o4), (L + 1 + 1 + 1, o3), (L + 1 + 1, o2)]) (rest := W) (c := L + 1) (o := o1) F (by simpa using N) rfl hd ?_ ?_ (fun h' o' F' N' d' => h h' o' F' (by simpa using N') d') rfl rfl
  · intro p hp
    rcases List.mem_append.mp hp with hp | hp
    · exact ap p (List.mem_append_left _ hp) (hpre p hp)
    · (try simp only [List.mem_cons, List.not_mem_nil, or_false] at hp)
      all_goals (try (rcases hp with rfl | rfl | rfl)) <;> (try (rcases hp with rfl | rfl)) <;> (try subst hp) <;> first | (show @Ne Nat _ _; (lia)) | exact hp.elim
  · intro p hp
    (try simp only [List.mem_cons] at hp)
    by_cases hw : p ∈ W
    · exact ap p (List.mem_append_right _ (by simp [hw])) (hW p hw).noC
    · (try simp only [hw, or_false] at hp)
      all_goals (try (rcases hp with rfl | rfl | rfl)) <;> (try (rcases hp with rfl | rfl)) <;> (try subst hp) <;> first | (show @Ne Nat _ _; (lia)) | exact hp.elim
theorem st_home {M : Model} {A : Around} {E : Value → Shared → Prop} {s : Shared} {base : Heap} {L fa : Addr} {cd : Value} {m : Str → Option Value} {pre W : List (Addr × Obj)} {o1 o2 o3 o4 : Obj} {v₀ : Option Value} {v : Value} {Q : Unit → Shared → Prop}
    (F : Fr base L s.heap m) (N : News base L s.heap (pre ++ (L + 1 + 1 + 1 + 1, o4) :: (L + 1 + 1 + 1, o3) :: (L + 1 + 1, o2) :: (L + 1, o1) :: W)) (hd : o2.data = .cell v₀) (hpre : ∀ p ∈ pre, NoC L p) (hW : ∀ p ∈ W, IsL p.2)
    (h : ∀ h' o', Fr base L h' m → News base L h' (pre ++ (L + 1 + 1 + 1 + 1, o4) :: (L + 1 + 1 + 1, o3) :: (L + 1 + 1, o') :: (L + 1, o1) :: W) → o'.data = .cell (some v) → Q () { s with heap := h' }) :
    wpAny M A (storeName (lawEnv L fa cd) (Str.ofString "home") v) Q E s := by
  have mem : (L + 1 + 1, o2) ∈ pre ++ (L + 1 + 1 + 1 + 1, o4) :: (L + 1 + 1 + 1, o3) :: (L + 1 + 1, o2) :: (L + 1, o1) :: W := List.mem_append_right _ (by simp)
  have ap := fun p hp hl => cell_apart (p := p) N hp mem hd (by (first | exact (ch0 1 4 (Eq.refl true)) | exact (ch0 2 4 (Eq.refl true)) | exact (ch0 3 4 (Eq.refl true)) | exact (ch0 4 4 (Eq.refl true)) | omega)) hl
  refine stCN (own := pre ++ [(L + 1 + 1 + 1 + 1, o4), (L + 1 + 1 + 1, o3)]) (rest := (L + 1, o1) :: W) (c := L + 1 + 1) (o := o2) F (by simpa using N) rfl hd ?_ ?_ (fun h' o' F' N' d' => h h' o' F' (by simpa using N') d') rfl rfl
  · intro p hp
    rcases List.mem_append.mp hp with hp | hp
    · exact ap p (List.mem_append_left _ hp) (hpre p hp)
    · (try simp only [List.mem_cons, List.not_mem_nil, or_false] at hp)
      all_goals (try (rcases hp with rfl | rfl | rfl)) <;> (try (rcases hp with rfl | rfl)) <;> (try subst hp) <;> first | (show @Ne Nat _ _; (lia)) | exact hp.elim
  · intro p hp
    (try simp only [List.mem_cons] at hp)
    by_cases hw : p ∈ W
    · exact ap p (List.mem_append_right _ (by simp [hw])) (hW p hw).noC
    · (try simp only [hw, or_false] at hp)
      all_goals (try (rcases hp with rfl | rfl | rfl)) <;> (try (rcases hp with rfl | rfl)) <;> (try subst hp) <;> first | (show @Ne Nat _ _; (lia)) | exact hp.elim
theorem st_reader {M : Model} {A : Around} {E : Value → Shared → Prop} {s : Shared} {base : Heap} {L fa : Addr} {cd : Value} {m : Str → Option Value} {pre W : List (Addr × Obj)} {o1 o2 o3 o4 : Obj} {v₀ : Option Value} {v : Value} {Q : Unit → Shared → Prop}
    (F : Fr base L s.heap m) (N : News base L s.heap (pre ++ (L + 1 + 1 + 1 + 1, o4) :: (L + 1 + 1 + 1, o3) :: (L + 1 + 1, o2) :: (L + 1, o1) :: W)) (hd : o3.data = .cell v₀) (hpre : ∀ p ∈ pre, NoC L p) (hW : ∀ p ∈ W, IsL p.2)
    (h : ∀ h' o', Fr base L h' m → News base L h' (pre ++ (L + 1 + 1 + 1 + 1, o4) :: (L + 1 + 1 + 1, o') :: (L + 1 + 1, o2) :: (L + 1, o1) :: W) → o'.data = .cell (some v) → Q () { s with heap := h' }) :
    wpAny M A (storeName (lawEnv L fa cd) (Str.ofString "reader") v) Q E s := by
  have mem : (L + 1 + 1 + 1, o3) ∈ pre ++ (L + 1 + 1 + 1 + 1, o4) :: (L + 1 + 1 + 1, o3) :: (L + 1 + 1, o2) :: (L + 1, o1) :: W := List.mem_append_right _ (by simp)
  have ap := fun p hp hl => cell_apart (p := p) N hp mem hd (by (first | exact (ch0 1 4 (Eq.refl true)) | exact (ch0 2 4 (Eq.refl true)) | exact (ch0 3 4 (Eq.refl true)) | exact (ch0 4 4 (Eq.refl true)) | omega)) hl
  refine stCN (own := pre ++ [(L + 1 + 1 + 1 + 1, o4)]) (rest := (L + 1 + 1, o2) :: (L + 1, o1) :: W) (c := L + 1 + 1 + 1) (o := o3) F (by simpa using N) rfl hd ?_ ?_ (fun h' o' F' N' d' => h h' o' F' (by simpa using N') d') rfl rfl
  · intro p hp
    rcases List.mem_append.mp hp with hp | hp
    · exact ap p (List.mem_append_left _ hp) (hpre p hp)
    · (try simp only [List.mem_cons, List.not_mem_nil, or_false] at hp)
      all_goals (try (rcases hp with rfl | rfl | rfl)) <;> (try (rcases hp with rfl | rfl)) <;> (try subst hp) <;> first | (show @Ne Nat _ _; (lia)) | exact hp.elim
  · intro p hp
    (try simp only [List.mem_cons] at hp)
    by_cases hw : p ∈ W
    · exact ap p (List.mem_append_right _ (by simp [hw])) (hW p hw).noC
    · (try simp only [hw, or_false] at hp)
      all_goals (try (rcases hp with rfl | rfl | rfl)) <;> (try (rcases hp with rfl | rfl)) <;> (try subst hp) <;> first | (show @Ne Nat _ _; (lia)) | exact hp.elim
theorem st_folder {M : Model} {A : Around} {E : Value → Shared → Prop} {s : Shared} {base : Heap} {L fa : Addr} {cd : Value} {m : Str → Option Value} {pre W : List (Addr × Obj)} {o1 o2 o3 o4 : Obj} {v₀ : Option Value} {v : Value} {Q : Unit → Shared → Prop}
    (F : Fr base L s.heap m) (N : News base L s.heap (pre ++ (L + 1 + 1 + 1 + 1, o4) :: (L + 1 + 1 + 1, o3) :: (L + 1 + 1, o2) :: (L + 1, o1) :: W)) (hd : o4.data = .cell v₀) (hpre : ∀ p ∈ pre, NoC L p) (hW : ∀ p ∈ W, IsL p.2)
    (h : ∀ h' o', Fr base L h' m → News base L h' (pre ++ (L + 1 + 1 + 1 + 1, o') :: (L + 1 + 1 + 1, o3) :: (L + 1 + 1, o2) :: (L + 1, o1) :: W) → o'.data = .cell (some v) → Q () { s with heap := h' }) :
    wpAny M A (storeName (lawEnv L fa cd) (Str.ofString "folder") v) Q E s := by
  have mem : (L + 1 + 1 + 1 + 1, o4) ∈ pre ++ (L + 1 + 1 + 1 + 1, o4) :: (L + 1 + 1 + 1, o3) :: (L + 1 + 1, o2) :: (L + 1, o1) :: W := List.mem_append_right _ (by simp)
  have ap := fun p hp hl => cell_apart (p := p) N hp mem hd (by (first | exact (ch0 1 4 (Eq.refl true)) | exact (ch0 2 4 (Eq.refl true)) | exact (ch0 3 4 (Eq.refl true)) | exact (ch0 4 4 (Eq.refl true)) | omega)) hl
  refine stCN (own := pre ++ []) (rest := (L + 1 + 1 + 1, o3) :: (L + 1 + 1, o2) :: (L + 1, o1) :: W) (c := L + 1 + 1 + 1 + 1) (o := o4) F (by simpa using N) rfl hd ?_ ?_ (fun h' o' F' N' d' => h h' o' F' (by simpa using N') d') rfl rfl
  · intro p hp
    rcases List.mem_append.mp hp with hp | hp
    · exact ap p (List.mem_append_left _ hp) (hpre p hp)
    · (try simp only [List.mem_cons, List.not_mem_nil, or_false] at hp)
      all_goals (try (rcases hp with rfl | rfl | rfl)) <;> (try (rcases hp with rfl | rfl)) <;> (try subst hp) <;> first | (show @Ne Nat _ _; (lia)) | exact hp.elim
  · intro p hp
    (try simp only [List.mem_cons] at hp)
    by_cases hw : p ∈ W
    · exact ap p (List.mem_append_right _ (by simp [hw])) (hW p hw).noC
    · (try simp only [hw, or_false] at hp)
      all_goals (try (rcases hp with rfl | rfl | rfl)) <;> (try (rcases hp with rfl | rfl)) <;> (try subst hp) <;> first | (show @Ne Nat _ _; (lia)) | exact hp.elim
theorem allLt_mem {a : Addr} : ∀ {W : List (Addr × Obj)}, AllLt a W → ∀ p ∈ W, @LT.lt Nat _ p.1 a
  | [], _, p, hp => nomatch hp
  | q :: W, h, p, hp => by
    rcases List.mem_cons.mp hp with rfl | hp
    · exact h.1
    · exact allLt_mem h.2 p hp
theorem append_led {prog : Program} {w : World} {A : Around} {E : Value → Shared → Prop} {s : Shared} {base : Heap} {L D : Addr} {m : Str → Option Value} {pre rest : List (Addr × Obj)} {vs : Array Value} {n : Nat} {x : Value} {Q : Value → Shared → Prop}
    (F : Fr base L s.heap m) (N : News base L s.heap (pre ++ (D, PySem.W.listOf vs n) :: rest)) (h1 : ∀ p ∈ pre, p.1 ≠ D) (h2 : ∀ p ∈ rest, p.1 ≠ D) (hz : vs.size ≤ sizeLine)
    (h : ∀ h', Fr base L h' m → News base L h' (pre ++ (D, PySem.W.listOf (vs.push x) (n + 1)) :: rest) → Q .none { s with heap := h' }) :
    wpAny (model prog w) A (call (.builtin "list.append") [.ref D, x]) Q E s := by
  have hD := N (D, PySem.W.listOf vs n) (List.mem_append_right _ (.head _))
  exact append_at hD.1 (fun h' hs ho => h h' (F.change hs hD.2.1 hD.2.2) (N.setAt h1 h2 hs ho)) hz
theorem perm_new {base h : Heap} {L : Addr} {x I C D c4 c3 c2 c1 : Addr × Obj} {Xs W0 : List (Addr × Obj)} (N : News base L h (x :: I :: C :: D :: c4 :: c3 :: c2 :: c1 :: (Xs ++ W0))) :
    News base L h (I :: C :: D :: c4 :: c3 :: c2 :: c1 :: ((x :: Xs) ++ W0)) :=
  fmc (N _ (by k_mem)) (fmc (N _ (by k_mem)) (fmc (N _ (by k_mem)) (fmc (N _ (by k_mem)) (fmc (N _ (by k_mem)) (fmc (N _ (by k_mem)) (fmc (N _ (by k_mem)) (fmc (N _ (.head _)) (fun q hq => N q (.tail _ (.tail _ (.tail _ (.tail _ (.tail _ (.tail _ (.tail _ (.tail _ hq))))))))))))))))
theorem off_new {I C D : Addr} {x c4 c3 c2 c1 : Addr × Obj} {Xs W0 : List (Addr × Obj)} (off : LCg.Off3 I C D (c4 :: c3 :: c2 :: c1 :: (Xs ++ W0))) (hx : @LT.lt Nat _ I x.1 ∧ @LT.lt Nat _ C x.1 ∧ @LT.lt Nat _ D x.1) : LCg.Off3 I C D (c4 :: c3 :: c2 :: c1 :: ((x :: Xs) ++ W0)) := by
  refine LCg.Off3.of fun p hp => ?_
  have hm := off.mem
  simp only [List.mem_cons, List.cons_append, List.mem_append] at hp hm
  rcases hp with h | h | h | h | h | h | h
  · exact hm p (.inl h)
  · exact hm p (.inr (.inl h))
  · exact hm p (.inr (.inr (.inl h)))
  · exact hm p (.inr (.inr (.inr (.inl h))))
  · rw [h]; exact ⟨Nat.ne_of_gt hx.1, Nat.ne_of_gt hx.2.1, Nat.ne_of_gt hx.2.2⟩
  · exact hm p (.inr (.inr (.inr (.inr (.inl h)))))
  · exact hm p (.inr (.inr (.inr (.inr (.inr h)))))
theorem isL_app {X W0 : List (Addr × Obj)} (h1 : ∀ p ∈ X, IsL p.2) (h2 : ∀ p ∈ W0, IsL p.2) : ∀ p ∈ X ++ W0, IsL p.2 := fun p hp => by
  rcases List.mem_append.mp hp with h | h
  · exact h1 p h
  · exact h2 p h
theorem isL_cons {a : Addr} {vs : Array Value} {n : Nat} {W : List (Addr × Obj)} (h : ∀ p ∈ W, IsL p.2) : ∀ p ∈ (a, ({ cls := .type "list", data := .seq vs n } : Obj)) :: W, IsL p.2 := List.forall_mem_cons.mpr ⟨⟨_, _, rfl⟩, h⟩
inductive PT where
  | s (x : Str)
  | l (ts : List PT)
mutual
noncomputable def Bears (W : List (Addr × Obj)) : PT → Value → Prop
  | .s x, v => ∃ t, v = .str x t
  | .l ts, v => ∃ a vs n, v = .ref a ∧ (a, ({ cls := .type "list", data := .seq vs n } : Obj)) ∈ W ∧ BearsL W ts vs.toList
noncomputable def BearsL (W : List (Addr × Obj)) : List PT → List Value → Prop
  | [], vs => vs = []
  | t :: ts, vs => ∃ v vs', vs = v :: vs' ∧ Bears W t v ∧ BearsL W ts vs'
end
mutual
theorem Bears.mono {W W' : List (Addr × Obj)} (hs : ∀ p ∈ W, p ∈ W') : ∀ (t : PT) (v : Value), Bears W t v → Bears W' t v
  | .s _, _, h => h
  | .l ts, v, h => by
    refine hideL ?_; intro gg1
    obtain ⟨a, vs, n, e, hm, hb⟩ := h
    k_unfold
    exact ⟨a, vs, n, e, hs _ hm, BearsL.mono hs ts _ hb⟩
theorem BearsL.mono {W W' : List (Addr × Obj)} (hs : ∀ p ∈ W, p ∈ W') : ∀ (ts : List PT) (vs : List Value), BearsL W ts vs → BearsL W' ts vs
  | [], _, h => h
  | t :: ts, vs, h => by
    refine hideL ?_; intro gg2
    obtain ⟨v, vs', e, h1, h2⟩ := h
    k_unfold
    exact ⟨v, vs', e, Bears.mono hs t v h1, BearsL.mono hs ts vs' h2⟩
end
theorem bears_s {W : List (Addr × Obj)} {x : Str} {t : Tok} : Bears W (.s x) (.str x t) := ⟨t, rfl⟩
theorem bears_l {W : List (Addr × Obj)} {ts : List PT} {a : Addr} {vs : Array Value} {n : Nat} (hm : (a, ({ cls := .type "list", data := .seq vs n } : Obj)) ∈ W) (h : BearsL W ts vs.toList) : Bears W (.l ts) (.ref a) := ⟨a, vs, n, rfl, hm, h⟩
theorem bears_of_l {W : List (Addr × Obj)} {ts : List PT} {v : Value} (h : Bears W (.l ts) v) : ∃ a vs n, v = .ref a ∧ (a, ({ cls := .type "list", data := .seq vs n } : Obj)) ∈ W ∧ BearsL W ts vs.toList := h
theorem bears_ref {W : List (Addr × Obj)} {ts : List PT} {a : Addr} (h : Bears W (.l ts) (.ref a)) : ∃ vs n, (a, ({ cls := .type "list", data := .seq vs n } : Obj)) ∈ W ∧ BearsL W ts vs.toList := by
  refine hideL ?_; intro gg3
  obtain ⟨_, vs, n, e, h⟩ := bears_of_l h
  k_unfold
  cases e
  exact ⟨vs, n, h⟩
theorem bears_of_s {W : List (Addr × Obj)} {x : Str} {v : Value} (h : Bears W (.s x) v) : ∃ t, v = .str x t := h
theorem bearsL_nil {W : List (Addr × Obj)} : BearsL W [] [] := (rfl : ([] : List Value) = [])
theorem bearsL_cons {W : List (Addr × Obj)} {t : PT} {ts : List PT} {v : Value} {vs : List Value} (h1 : Bears W t v) (h2 : BearsL W ts vs) : BearsL W (t :: ts) (v :: vs) := ⟨v, vs, rfl, h1, h2⟩
theorem bearsL_of_cons {W : List (Addr × Obj)} {t : PT} {ts : List PT} {vs : List Value} (h : BearsL W (t :: ts) vs) : ∃ v vs', vs = v :: vs' ∧ Bears W t v ∧ BearsL W ts vs' := h
theorem bearsL_of_nil {W : List (Addr × Obj)} {vs : List Value} (h : BearsL W [] vs) : vs = [] := h
theorem bearsL_snoc {W : List (Addr × Obj)} {t : PT} {v : Value} (h1 : Bears W t v) : ∀ {ts : List PT} {vs : List Value}, BearsL W ts vs → BearsL W (ts ++ [t]) (vs ++ [v])
  | [], vs, h => by rw [bearsL_of_nil h]; exact bearsL_cons h1 bearsL_nil
  | t' :: ts, vs, h => by
    refine hideL ?_; intro gg4
    obtain ⟨v', vs', rfl, h2, h3⟩ := bearsL_of_cons h
    k_unfold
    exact bearsL_cons h2 (bearsL_snoc h1 h3)
theorem bearsL_len {W : List (Addr × Obj)} : ∀ {ts : List PT} {vs : List Value}, BearsL W ts vs → vs.length = ts.length
  | [], vs, h => by rw [bearsL_of_nil h]; rfl
  | t :: ts, vs, h => by
    refine hideL ?_; intro gg5
    obtain ⟨v', vs', rfl, _, h3⟩ := bearsL_of_cons h
    k_unfold
    simp [bearsL_len h3]
theorem bearsL_get {W : List (Addr × Obj)} : ∀ {ts : List PT} {vs : List Value}, BearsL W ts vs → ∀ (i : Nat) (v : Value), vs[i]? = some v → ∃ t, ts[i]? = some t ∧ Bears W t v
  | [], vs, h, i, v, e => by rw [bearsL_of_nil h] at e; simp at e
  | t :: ts, vs, h, i, v, e => by
    refine hideL ?_; intro gg6
    obtain ⟨v', vs', rfl, h2, h3⟩ := bearsL_of_cons h
    k_unfold
    cases i with
    | zero => simp at e; subst e; exact ⟨t, rfl, h2⟩
    | succ i => exact bearsL_get h3 i v (by simpa using e)
theorem bears_texts {W : List (Addr × Obj)} : ∀ {xs : List Str} {vs : List Value}, BearsL W (xs.map .s) vs → ∃ l : List (Str × Tok), vs = strValues l ∧ l.map (·.1) = xs
  | [], vs, h => ⟨[], by rw [bearsL_of_nil h]; rfl, rfl⟩
  | x :: xs, vs, h => by
    refine hideL ?_; intro gg7
    obtain ⟨v', vs', rfl, h2, h3⟩ := bearsL_of_cons h
    obtain ⟨t, rfl⟩ := bears_of_s h2
    obtain ⟨l, rfl, e⟩ := bears_texts h3
    k_unfold
    exact ⟨(x, t) :: l, rfl, by simp [e]⟩
theorem bearsL_at {W : List (Addr × Obj)} {t : PT} : ∀ (i : Nat) (ts : List PT) (vs : List Value), BearsL W ts vs → ts[i]? = some t → ∃ v, vs[i]? = some v ∧ Bears W t v := by
  intro i
  induction i with
  | zero =>
    intro ts vs h z
    cases ts with
    | nil => cases z
    | cons t' ts =>
      refine hideL ?_; intro gg8
      obtain ⟨v, _, e, h, _⟩ := bearsL_of_cons h
      k_unfold
      exact ⟨v, by rw [e]; rfl, Option.some.inj z ▸ h⟩
  | succ i ih =>
    intro ts vs h z
    cases ts with
    | nil => cases z
    | cons t' ts =>
      refine hideL ?_; intro gg9
      obtain ⟨_, _, e, _, h⟩ := bearsL_of_cons h
      k_unfold
      rw [e]; exact ih ts _ h z
theorem bearsL_str {W : List (Addr × Obj)} {ts : List PT} {vs : Array Value} (h : BearsL W ts vs.toList) (i : Nat) {x : Str} (z : ts[i]? = some (.s x)) : ∃ t, vs[i]? = some (.str x t) := by
  refine hideL ?_; intro gg10
  obtain ⟨_, e, t, e2⟩ := bearsL_at _ _ _ h z
  k_unfold
  exact ⟨t, by rw [← Array.getElem?_toList, e, e2]⟩
theorem bearsL_lst {W : List (Addr × Obj)} {ts : List PT} {vs : Array Value} (h : BearsL W ts vs.toList) (i : Nat) {xs : List Str} (z : ts[i]? = some (.l (xs.map .s))) : ∃ a n l, vs[i]? = some (.ref a) ∧ (a, ({ cls := .type "list", data := .seq (strValues l).toArray n } : Obj)) ∈ W ∧ l.map (·.1) = xs := by
  refine hideL ?_; intro gg11
  obtain ⟨_, e, h⟩ := bearsL_at _ _ _ h z
  obtain ⟨a, va, n, e2, ha, hb⟩ := bears_of_l h
  obtain ⟨l, e3, hl⟩ := bears_texts hb
  k_unfold
  exact ⟨a, n, l, by rw [← Array.getElem?_toList, e, e2], by rw [← e3]; exact ha, hl⟩
theorem texts_bear {W : List (Addr × Obj)} : ∀ (l : List (Str × Tok)), BearsL W ((l.map (·.1)).map .s) (strValues l)
  | [] => bearsL_nil
  | c :: l => bearsL_cons bears_s (texts_bear l)
noncomputable def PT.depth : PT → Nat
  | .s _ => 0
  | .l ts => depthL ts + 1
where depthL : List PT → Nat
  | [] => 0
  | t :: ts => max t.depth (depthL ts)
open SeqAt
mutual
theorem eq_tree {s : Shared} {W : List (Addr × Obj)} (hW : ∀ p ∈ W, s.heap.get? p.1 = some p.2) : ∀ (t : PT) (A : Around) (v u : Value), A.units + t.depth < cLine → Bears W t v → Bears W t u → EqAt A s v u true
  | .s x, A, v, u, _, h1, h2 => by
    refine hideL ?_; intro gg12
    obtain ⟨t1, rfl⟩ := bears_of_s h1
    obtain ⟨t2, rfl⟩ := bears_of_s h2
    k_unfold
    have := EqAt.str_str (A := A) (s := s) x t1 x t2
    rwa [beq_self_eq_true] at this
  | .l ts, A, v, u, hu, h1, h2 => by
    refine hideL ?_; intro gg13
    obtain ⟨a, vs, n, rfl, hm, hb⟩ := bears_of_l h1
    obtain ⟨a', vs', n', rfl, hm', hb'⟩ := bears_of_l h2
    k_unfold
    by_cases e : a = a'
    · subst e; exact EqAt.same _
    · have hz : vs.size = vs'.size := by rw [← Array.length_toList, ← Array.length_toList, bearsL_len hb, bearsL_len hb']
      have := RcAt.lists (A := A) (s := s) (e := fun _ => true) ⟨_, hW _ hm, rfl, _, rfl⟩ ⟨_, hW _ hm', rfl, _, rfl⟩ hz (by replace hu : A.units + (PT.depth.depthL ts + 1) < cLine := hu; omega) (fun j h1 h2 => eq_all hW ts A.in1 vs.toList vs'.toList (by rw [units_in1]; replace hu : A.units + (PT.depth.depthL ts + 1) < cLine := hu; omega) hb hb' j _ _ (by rw [Array.getElem?_toList]; exact Array.getElem?_eq_getElem h1) (by rw [Array.getElem?_toList]; exact Array.getElem?_eq_getElem h2))
      rw [show ((List.range vs.size).all fun _ => true) = true by simp] at this
      exact EqAt.of_refs e this
theorem eq_all {s : Shared} {W : List (Addr × Obj)} (hW : ∀ p ∈ W, s.heap.get? p.1 = some p.2) : ∀ (ts : List PT) (A : Around) (vs us : List Value), A.units + PT.depth.depthL ts < cLine → BearsL W ts vs → BearsL W ts us → ∀ (j : Nat) (v u : Value), vs[j]? = some v → us[j]? = some u → EqAt A s v u true
  | [], _, vs, _, _, h1, _, j, v, _, e1, _ => by rw [bearsL_of_nil h1] at e1; simp at e1
  | t :: ts, A, vs, us, hu, h1, h2, j, v, u, e1, e2 => by
    refine hideL ?_; intro gg14
    obtain ⟨v', vs', rfl, b1, b2⟩ := bearsL_of_cons h1
    obtain ⟨u', us', rfl, c1, c2⟩ := bearsL_of_cons h2
    k_unfold
    replace hu : A.units + max t.depth (PT.depth.depthL ts) < cLine := hu
    cases j with
    | zero =>
      simp at e1 e2; subst e1; subst e2
      exact eq_tree hW t A v' u' (Nat.lt_of_le_of_lt (Nat.add_le_add_left (Nat.le_max_left _ _) _) hu) b1 c1
    | succ j => exact eq_all hW ts A vs' us' (Nat.lt_of_le_of_lt (Nat.add_le_add_left (Nat.le_max_right _ _) _) hu) b2 c2 j v u (by simpa using e1) (by simpa using e2)
end
theorem eq_two {prog : Program} {w : World} {A : Around} {s : Shared} {E : Value → Shared → Prop} {Q : Value → Shared → Prop} {W : List (Addr × Obj)} (hW : ∀ p ∈ W, s.heap.get? p.1 = some p.2) {ts : List PT} {a a' : Addr} (hu : A.units + (PT.l ts).depth < cLine) (h1 : Bears W (.l ts) (.ref a)) (h2 : Bears W (.l ts) (.ref a')) (h : Q (.bool true) s) :
    wpAny (model prog w) A (compareOp .Eq (.ref a) (.ref a')) Q E s := by
  refine hideL ?_; intro gg15
  obtain ⟨b, vs, n, e, hm, hb⟩ := bears_of_l h1
  obtain ⟨b', vs', n', e', hm', hb'⟩ := bears_of_l h2
  k_unfold
  cases e; cases e'
  have hz : vs.size = vs'.size := by rw [← Array.length_toList, ← Array.length_toList, bearsL_len hb, bearsL_len hb']
  refine eq_listAt (e := fun _ => true) ⟨_, hW _ hm, rfl, _, rfl⟩ ⟨_, hW _ hm', rfl, _, rfl⟩ hz (by replace hu : A.units + (PT.depth.depthL ts + 1) < cLine := hu; omega) (fun j h1 h2 => eq_all hW ts A.in1 vs.toList vs'.toList (by rw [units_in1]; replace hu : A.units + (PT.depth.depthL ts + 1) < cLine := hu; omega) hb hb' j _ _ (by rw [Array.getElem?_toList]; exact Array.getElem?_eq_getElem h1) (by rw [Array.getElem?_toList]; exact Array.getElem?_eq_getElem h2)) ?_
  rw [show ((List.range vs.size).all fun _ => true) = true by simp]
  exact h
theorem st_as {M : Model} {A : Around} {E : Value → Shared → Prop} {Q : Flow → Shared → Prop} {s : Shared} {h : Heap} {t : Nat} {st st' : Stmt} {env env' : Env} (e1 : st = st') (e2 : env = env') (k : let env'' := env'; let A' := A; let gg := s.gens; let dd := s.drawn; let oo := s.os; wpAny M A' (exec st' env'') Q E ⟨h, gg, dd, t, oo⟩) : wpAny M A (exec st env) Q E { s with heap := h, toks := t } := by rw [e1, e2]; exact k
theorem bearsL_take {α : Type} {W : List (Addr × Obj)} {ts : List PT} {ks : List α} {g : α → PT} {i : Nat} {k : α} {vt : Array Value} {v : Value} (hk : ks[i]? = some k) (h : Bears W (g k) v) (hb : BearsL W (ts ++ (ks.take i).map g) vt.toList) : BearsL W (ts ++ (ks.take (i + 1)).map g) (vt.push v).toList := by
  rw [List.take_add_one, hk, Option.toList_some, List.map_append, ← List.append_assoc, Array.toList_push]
  exact bearsL_snoc h hb
theorem bearsL_take0 {α : Type} {W : List (Addr × Obj)} {ks : List α} {g : α → PT} {i : Nat} {k : α} {vs : List Value} {v : Value} (hk : ks[i]? = some k) (h : Bears W (g k) v) (hb : BearsL W ((ks.take i).map g) vs) : BearsL W ((ks.take (i + 1)).map g) (vs ++ [v]) := by
  rw [List.take_add_one, hk, Option.toList_some, List.map_append]
  exact bearsL_snoc h hb
theorem map_take {α : Type} {l : List (Str × Tok)} {ks : List α} {g : α → Str} {i : Nat} {k : α} {x : Str} {t : Tok} (h : l.map (·.1) = (ks.take i).map g) (hk : ks[i]? = some k) (hx : x = g k) : (l ++ [(x, t)]).map (·.1) = (ks.take (i + 1)).map g := by
  rw [List.map_append, h, List.take_add_one, hk, Option.toList_some, List.map_append, hx]; rfl
theorem sv_snoc (l : List (Str × Tok)) (x : Str) (t : Tok) : strValues l ++ [Value.str x t] = strValues (l ++ [(x, t)]) := by simp only [strValues, List.map_append]; rfl
theorem sv_pick {α : Type} {l : List (Str × Tok)} {ks : List α} {g : α → Str} {i : Nat} {v : Value} (hlk : l.map (·.1) = ks.map g) (hv : (strValues l).toArray[i]? = some v) : ∃ k u, ks[i]? = some k ∧ v = .str (g k) u := by
  rw [List.getElem?_toArray] at hv
  refine hideL ?_; intro gg16
  obtain ⟨c, hc, rfl⟩ := map_get hv
  k_unfold
  have e : (ks.map g)[i]? = some c.1 := by rw [← hlk, List.getElem?_map, hc]; rfl
  refine hideL ?_; intro gg17
  obtain ⟨k, hk, e2⟩ := map_get e
  k_unfold
  exact ⟨k, c.2, hk, by rw [← e2]⟩
theorem nw {base h : Heap} {L : Addr} {x : Addr × Obj} {l l' : List (Addr × Obj)} (N : News base L h l) (m : x ∈ l) (t : News base L h l') : News base L h (x :: l') := List.forall_mem_cons.mpr ⟨N x m, t⟩
theorem either {α : Type} {P : α → Prop} {X Y : List α} (h1 : ∀ p ∈ X, P p) (h2 : ∀ p ∈ Y, P p) : ∀ p ∈ X ++ Y, P p := fun p hp => (List.mem_append.mp hp).elim (h1 p) (h2 p)
inductive P12 (src tl L : Addr) (o1 o2 o4 : Obj) (nm : Option Value → LN) (z : Nat) (ts : List PT) (ks : List Nat) (g : Nat → PT) (W0 : List (Addr × Obj)) (l I : Addr) (i : Nat) (m : Str → Option Value) (nw : List (Addr × Obj)) : Prop where
  | mk (e0 : l = src) (wv rv : Option Value) (o3' : Obj) (vt : Array Value) (nt : Nat) (X : List (Addr × Obj)) (em : m = lm (nm wv)) (en : nw = (L + 1 + 1 + 1 + 1, o4) :: (L + 1 + 1 + 1, o3') :: (L + 1 + 1, o2) :: (L + 1, o1) :: (tl, PySem.W.listOf vt nt) :: (X ++ W0))
    (d3 : o3'.data = .cell rv) (hz : vt.size = z + i) (hb : BearsL (X ++ W0) (ts ++ (ks.take i).map g) vt.toList) (hX : ∀ p ∈ X, IsL p.2 ∧ @Ne Nat p.1 tl) (hI : @LT.lt Nat _ tl I)
inductive P13 (src tl L : Addr) (o1 o2 : Obj) (nm : LN) (z : Nat) (ts : List PT) (ks : List Nat) (g : Nat → PT) (W0 : List (Addr × Obj)) (l I : Addr) (i : Nat) (m : Str → Option Value) (nw : List (Addr × Obj)) : Prop where
  | mk (e0 : l = src) (rv fv : Option Value) (o3' o4' : Obj) (vt : Array Value) (nt : Nat) (em : m = lm nm) (en : nw = (L + 1 + 1 + 1 + 1, o4') :: (L + 1 + 1 + 1, o3') :: (L + 1 + 1, o2) :: (L + 1, o1) :: (tl, PySem.W.listOf vt nt) :: W0)
    (d3 : o3'.data = .cell rv) (d4 : o4'.data = .cell fv) (hz : vt.size = z + i) (hb : BearsL W0 (ts ++ (ks.take i).map g) vt.toList) (hI : @LT.lt Nat _ tl I)
inductive P15 (src tl L : Addr) (o1 o2 o3 : Obj) (nm : LN) (z : Nat) (ts : List PT) (ks : List Nat) (g : Nat → PT) (W0 : List (Addr × Obj)) (l I : Addr) (i : Nat) (m : Str → Option Value) (nw : List (Addr × Obj)) : Prop where
  | mk (e0 : l = src) (fv : Option Value) (o4' : Obj) (vt : Array Value) (nt : Nat) (X : List (Addr × Obj)) (em : m = lm nm) (en : nw = (L + 1 + 1 + 1 + 1, o4') :: (L + 1 + 1 + 1, o3) :: (L + 1 + 1, o2) :: (L + 1, o1) :: (tl, PySem.W.listOf vt nt) :: (X ++ W0))
    (d4 : o4'.data = .cell fv) (hz : vt.size = z + i) (hb : BearsL (X ++ W0) (ts ++ (ks.take i).map g) vt.toList) (hX : ∀ p ∈ X, IsL p.2 ∧ @Ne Nat p.1 tl) (hI : @LT.lt Nat _ tl I)
inductive P16 (src tl L : Addr) (o1 o2 o3 : Obj) (nm : LN) (z : Nat) (ts : List PT) (ks : List Nat) (g : Nat → PT) (W0 : List (Addr × Obj)) (l I : Addr) (i : Nat) (m : Str → Option Value) (nw : List (Addr × Obj)) : Prop where
  | mk (e0 : l = src) (fv : Option Value) (o4' : Obj) (vt : Array Value) (nt : Nat) (em : m = lm nm) (en : nw = (L + 1 + 1 + 1 + 1, o4') :: (L + 1 + 1 + 1, o3) :: (L + 1 + 1, o2) :: (L + 1, o1) :: (tl, PySem.W.listOf vt nt) :: W0)
    (d4 : o4'.data = .cell fv) (hz : vt.size = z + i) (hb : BearsL W0 (ts ++ (ks.take i).map g) vt.toList) (hI : @LT.lt Nat _ tl I)
end TQ0
section TF0
open PySem PySem.W PyProof.Rows PySem.Calls
set_option maxHeartbeats 8000000


theorem news_fresh {h₀ h h' : Heap} {L : Addr} {m : Str → Option Value} {news : List (Addr × Obj)} {D : Addr} {o : Obj} (F : Fr h₀ L h m) (hn : h.get? D = none) (ho : h'.get? D = some o) (N : News h₀ L h' news) : News h₀ L h' ((D, o) :: news) := by
  refine List.forall_mem_cons.mpr ⟨⟨ho, fun z => ?_, ?_⟩, N⟩
  · obtain ⟨oL, _, _, hL, _⟩ := F.ns
    have z' : D = L := z
    rw [z', hL] at hn; cases hn
  · cases e : h₀.get? D with
    | none => rfl
    | some o' => have := F.keep _ _ e; rw [hn] at this; cases this

theorem ct_kind {w : World} {A : Around} {Q : Value → Shared → Prop} {s : Shared} {p : Program} {loose : List Str} {mean : ExcName → Option Value} {mg mb : Str → Option Value}
    (X : (Mine.top.heap_1_39 w.params).In s.heap) (T : Top p loose mean mg mb s.heap) (hroom : A.depth + 2 < recursionLimit) (n x : Str) (t u : Tok)
    (ret : ∀ h' tk t', Stays s.heap h' → Q (.str (Str.ofString "") t') { s with heap := h', toks := tk }) :
    wpAny (model PySem.Challenge.rw_aa0007_01.row.prog w) A (call (.ref 736) [.str n u, .str x t]) Q noE s := by
  revert X; k_fill; intro X
  k_dflt (refine' enterK (binds := [(Str.ofString "name", Value.str n u), (Str.ofString "x", Value.str x t)]) ?k1 ?k2 ?k6 ?k7 ?k8 ?k9 ?kB ?_ ?c5 ?c2 ?c3 ?c4; ((case k1 => assumption); (case k2 => exact Top.nolimit (by assumption)); (case k6 => k_is); (case k7 => k_is); (case k8 => (try dsimp only); (first | exact (ch1 3 0 1 0 hroom (Eq.refl true)) | exact (ch1 6 0 1 0 hroom (Eq.refl true)) | omega)); (case k9 => exact BindsTo.of_eq rfl); (case c5 => decide); (case kB => exact locs rfl); (case c2 => exact rfl); (case c3 => exact rfl); (case c4 => exact rfl)))
  intro h₁ F
  (try k_extra "en")
  have N : News s.heap s.heap.objs.size h₁ [] := News.nil
  ((try k_extra "rf"); (repeat' (first | (k_extra "wb") | (k_extra "wo"))))
  (try dsimp only)
  rename News _ _ _ _ => N
  rename Fr _ _ _ _ => F
  exact ret _ _ _ F.keep

theorem ct_fspathP {w : World} {A : Around} {Q : Value → Shared → Prop} {s : Shared} {p : Program} {loose : List Str} {mean : ExcName → Option Value} {mg mb : Str → Option Value}
    (X : (Mine.top.heap_1_39 w.params).In s.heap) (T : Top p loose mean mg mb s.heap) (hroom : A.depth + 5 < recursionLimit) (n x : Str) (t u : Tok)
    (ret : ∀ h' tk, Stays s.heap h' → Q (.str x t) { s with heap := h', toks := tk }) :
    wpAny (model PySem.Challenge.rw_aa0007_01.row.prog w) A (call (.ref 743) [.str n u, .str x t]) Q noE s := by
  revert X; k_fill; intro X
  k_dflt (refine' enterK (binds := [(Str.ofString "name", Value.str n u), (Str.ofString "x", Value.str x t)]) ?k1 ?k2 ?k6 ?k7 ?k8 ?k9 ?kB ?_ ?c5 ?c2 ?c3 ?c4; ((case k1 => assumption); (case k2 => exact Top.nolimit (by assumption)); (case k6 => k_is); (case k7 => k_is); (case k8 => (try dsimp only); (first | exact (ch1 3 0 1 0 hroom (Eq.refl true)) | exact (ch1 6 0 1 0 hroom (Eq.refl true)) | omega)); (case k9 => exact BindsTo.of_eq rfl); (case c5 => decide); (case kB => exact locs rfl); (case c2 => exact rfl); (case c3 => exact rfl); (case c4 => exact rfl)))
  intro h₁ F
  (try k_extra "en")
  have N : News s.heap s.heap.objs.size h₁ [] := News.nil
  ((try k_extra "rf"); (repeat' (first | (k_extra "wb") | ((k_extra "lC"); (k_extra "wo")))))
  rename News _ _ _ _ => N
  rename Fr _ _ _ _ => F
  refine ct_kind (X.keeps F.keep) (T.keeps F.keep) (by first | exact roomd hroom rfl | exact room2 (j := 1) hroom rfl | (simp only [depth_deeper]; omega)) _ _ _ _ ?_
  intro h2 tk2 t2 st2
  have F2 := fr_stay F st2
  have N2 := news_stay N st2
  clear F N st2
  ((try k_extra "rf"); (repeat' (first | (k_extra "wb") | (k_extra "wo"))))
  (try dsimp only)
  rename News _ _ _ _ => N
  rename Fr _ _ _ _ => F
  exact ret _ _ F.keep
end TF0
section TF2
open PySem PySem.W PyProof.Rows PySem.Calls
set_option maxHeartbeats 8000000

theorem ct_fresh {w : World} {A : Around} {Q : Value → Shared → Prop} {s : Shared} {p : Program} {loose : List Str} {mean : ExcName → Option Value} {mg mb : Str → Option Value}
    (X : (Mine.top.heap_1_39 w.params).In s.heap) (T : Top p loose mean mg mb s.heap) (hroom : A.depth + 2 < recursionLimit) (x : Str) (t : Tok) (hx : x.length ≤ 300000)
    (ret : ∀ h' tk t', Stays s.heap h' → Q (.str x t') { s with heap := h', toks := tk }) :
    wpAny (model PySem.Challenge.rw_aa0007_01.row.prog w) A (call (.ref 785) [.str x t]) Q noE s := by
  revert X; k_fill; intro X
  k_dflt (refine' enterK (binds := [(Str.ofString "s", Value.str x t)]) ?k1 ?k2 ?k6 ?k7 ?k8 ?k9 ?kB ?_ ?c5 ?c2 ?c3 ?c4; ((case k1 => assumption); (case k2 => exact Top.nolimit (by assumption)); (case k6 => k_is); (case k7 => k_is); (case k8 => (try dsimp only); (first | exact (ch1 3 0 1 0 hroom (Eq.refl true)) | omega)); (case k9 => exact BindsTo.of_eq rfl); (case c5 => decide); (case kB => exact locs rfl); (case c2 => exact rfl); (case c3 => exact rfl); (case c4 => exact rfl)))
  intro h₁ F
  (try k_extra "en")
  have N : News s.heap s.heap.objs.size h₁ [] := News.nil
  rw [← fresh_slice x] at ret
  have zs : (x ++ Str.ofString "/").length ≤ sizeLine := by rw [show (x ++ Str.ofString "/").length = x.length + (Str.ofString "/").length from Array.size_append, len_slash]; exact Nat.le_trans (Nat.add_le_add_right hx 1) (by decide)
  ((try k_extra "rf"); (repeat' (first | (k_extra "wb") | (k_extra "wo"))))
  (try dsimp only)
  rename News _ _ _ _ => N
  rename Fr _ _ _ _ => F
  exact ret _ _ _ F.keep

theorem ct_splitP_abs {w : World} {A : Around} {Q : Value → Shared → Prop} {s : Shared} {p : Program} {loose : List Str} {mean : ExcName → Option Value} {mg mb : Str → Option Value}
    (X : (Mine.top.heap_1_39 w.params).In s.heap) (T : Top p loose mean mg mb s.heap) (hroom : A.depth + 10 < recursionLimit) (x : Str) (t : Tok) (hx : x.length < 1000)
    (h1 : ¬ ((Txt.slice x none (some 1) != Str.ofString "/") = true)) (h2 : (Txt.slice x (some 1) (some 2) != Str.ofString "/") = true)
    (ret : ∀ h' tk D t1 t2 t3, Stays s.heap h' → h'.get? D = some { cls := .type "tuple", data := .seq #[.str (Str.ofString "") t1, .str (Str.ofString "/") t2, .str (Txt.slice x (some 1) none) t3] } → s.heap.get? D = none → Q (.ref D) { s with heap := h', toks := tk }) :
    wpAny (model PySem.Challenge.rw_aa0007_01.row.prog w) A (call (.ref 792) [.str x t]) Q noE s := by
  revert X; k_fill; intro X
  k_dflt (refine' enterK (binds := [(Str.ofString "p", Value.str x t)]) ?k1 ?k2 ?k6 ?k7 ?k8 ?k9 ?kB ?_ ?c5 ?c2 ?c3 ?c4; ((case k1 => assumption); (case k2 => exact Top.nolimit (by assumption)); (case k6 => k_is); (case k7 => k_is); (case k8 => (try dsimp only); (first | exact (ch1 11 0 1 0 hroom (Eq.refl true)) | omega)); (case k9 => exact BindsTo.of_eq rfl); (case c5 => decide); (case kB => exact locs rfl); (case c2 => exact rfl); (case c3 => exact rfl); (case c4 => exact rfl)))
  intro h₁ F
  (try k_extra "en")
  have N : News s.heap s.heap.objs.size h₁ [] := News.nil
  ((try k_extra "rf"); (repeat' (first | (k_extra "wb") | (k_extra "wo"))))
  (try dsimp only)
  rename News _ _ _ _ => N
  rename Fr _ _ _ _ => F
  exact ret _ _ _ _ _ _ F.keep (N _ (.head _)).1 (N _ (.head _)).2.2

theorem ct_splitP_rel {w : World} {A : Around} {Q : Value → Shared → Prop} {s : Shared} {p : Program} {loose : List Str} {mean : ExcName → Option Value} {mg mb : Str → Option Value}
    (X : (Mine.top.heap_1_39 w.params).In s.heap) (T : Top p loose mean mg mb s.heap) (hroom : A.depth + 10 < recursionLimit) (x : Str) (t : Tok) (hx : x.length < 1000)
    (h1 : (Txt.slice x none (some 1) != Str.ofString "/") = true)
    (ret : ∀ h' tk D t1 t2 t3, Stays s.heap h' → h'.get? D = some { cls := .type "tuple", data := .seq #[.str (Str.ofString "") t1, .str (Str.ofString "") t2, .str x t3] } → s.heap.get? D = none → Q (.ref D) { s with heap := h', toks := tk }) :
    wpAny (model PySem.Challenge.rw_aa0007_01.row.prog w) A (call (.ref 792) [.str x t]) Q noE s := by
  revert X; k_fill; intro X
  k_dflt (refine' enterK (binds := [(Str.ofString "p", Value.str x t)]) ?k1 ?k2 ?k6 ?k7 ?k8 ?k9 ?kB ?_ ?c5 ?c2 ?c3 ?c4; ((case k1 => assumption); (case k2 => exact Top.nolimit (by assumption)); (case k6 => k_is); (case k7 => k_is); (case k8 => (try dsimp only); (first | exact (ch1 11 0 1 0 hroom (Eq.refl true)) | omega)); (case k9 => exact BindsTo.of_eq rfl); (case c5 => decide); (case kB => exact locs rfl); (case c2 => exact rfl); (case c3 => exact rfl); (case c4 => exact rfl)))
  intro h₁ F
  (try k_extra "en")
  have N : News s.heap s.heap.objs.size h₁ [] := News.nil
  ((try k_extra "rf"); (repeat' (first | (k_extra "wb") | ((k_extra "lC"); (k_extra "wo")))))
  rename News _ _ _ _ => N
  rename Fr _ _ _ _ => F
  refine ct_fresh (X.keeps F.keep) (T.keeps F.keep) (by first | exact roomd hroom rfl | exact room2 (j := 1) hroom rfl | (simp only [depth_deeper]; omega)) x t (by first | with_reducible assumption | decide | exact Nat.le_trans (by with_reducible assumption) (Nat.le_of_ble_eq_true rfl) | omega) ?_
  intro h2 tk2 t2 st2
  have F2 := fr_stay F st2
  have N2 := news_stay N st2
  clear F N st2
  ((try k_extra "rf"); (repeat' (first | (k_extra "wb") | (k_extra "wo"))))
  (try dsimp only)
  rename News _ _ _ _ => N
  rename Fr _ _ _ _ => F
  exact ret _ _ _ _ _ _ F.keep (N _ (.head _)).1 (N _ (.head _)).2.2
end TF2
section TB5
open PySem PySem.W PyProof.Rows PySem.Calls
set_option maxHeartbeats 4000000
noncomputable def strTup : Obj := { cls := .type "tuple", data := .seq #[.type "str", .type "bytes"] }
theorem check_nested : checkBuiltinCall "issubclass.nested" ⟨[.type "str", .type "str", rawInt 1], []⟩ = pure () := by rw [PySem.W.Fast.te10254737850608025244]; kernel_rfl
theorem plain_nested : plainId "issubclass.nested" = true := by decide +kernel
theorem isub_str : isSubtype (.type "str") (.type "str") = pure true := by rw [isSubtype_type]; kernel_rfl
theorem isub_tuple : isSubtype (.type "tuple") (.type "tuple") = pure true := by rw [isSubtype_type]; kernel_rfl
section
variable {prog : Program} {w : World} {A : Around} {E : Value → Shared → Prop} {s : Shared}
theorem inner_str {k : Value} {dep : Int} {tk : Tok} {Q : Fin → Shared → Prop} (hk : k = .int dep tk) (hq : Q (.done (.ret (.bool true))) s) :
    wpAny (model prog w) A (Builtin.«issubclass.nested» ⟨[.type "str", .type "str", k], []⟩) Q E s := by
  subst hk
  have hm : (Value.type ((Manifest.find? "str").elim "type" fun x => x.metatype) == Value.type "type") = true := by kernel_rfl
  have hself := isub_str
  repeat (any_goals (first | assumption | (rw [if_pos hm]) | (rw [hself]) | wp_step))
theorem code_inner {R : Result → Shared → Prop} (h : R (.ok (.ret (.bool true))) s) : codeAny (model prog w) A (.call (.builtin "issubclass.nested") ⟨[.type "str", .type "str", rawInt 1], []⟩) R s :=
  codeAny_call_builtin plain_nested F.entry_issubclass_nested (wpAny_of_eq check_nested (inner_str rfl h))
theorem issub_str {D : Addr} {Q : Value → Shared → Prop} (hD : s.heap.get? D = some strTup) (h : Q (.bool true) s) : wpAny (model prog w) A (call (.builtin "issubclass") [.type "str", .ref D]) Q E s := by
  refine call_issubclass (S := fun A' R s' => s'.heap.get? D = some strTup ∧ R (.ok (.ret (.bool true))) s') (fun prog w A R s' hs => issubclass_outer ?_) ⟨hD, h⟩
  obtain ⟨hD, hR⟩ := hs
  unfold Builtin.«issubclass.nested» strTup at *
  have h1 := isub_tuple
  wp_walk
  show codeAny _ _ (.call (.builtin "issubclass.nested") ⟨[.type "str", .type "str", rawInt 1], []⟩) _ _
  refine code_inner ?_
  wp_walk
  exact hR
end
end TB5
section TD2
open PySem Builtin
set_option maxHeartbeats 4000000
open PySem.Sre

theorem inSet_at (c i x : Nat) (h : ∀ seen, inSet reCode c 34 i true seen = inSet reCode c 33 (i + 1) false (seen.add 21))
  (h2 : ∀ seen, inSet reCode c 33 (i + 1) false seen = if (decide (c < 256) && x.testBit (c % 32)) = true then .ok (false, seen.add 9) else inSet reCode c 32 (i + 10) false (seen.add 9))
  (h3 : ∀ seen, inSet reCode c 32 (i + 10) false seen = if isWord c = true then .ok (false, (seen.add 8).add 59) else inSet reCode c 31 (i + 12) false ((seen.add 8).add 59))
  (h4 : ∀ seen, inSet reCode c 31 (i + 12) false seen = .ok (true, seen.add 0)) (hx : c < 256 → x = reCode.getD (7 + c / 32) 0)
  (seen : Seen) : ∃ seen', inSet reCode c 34 i true seen = .ok (bad c, seen') := by
  rw [h, h2, h3, h4]
  have e : (decide (c < 256) && x.testBit (c % 32)) = (decide (c < 256) && (reCode.getD (7 + c / 32) 0).testBit (c % 32)) := by
    by_cases z : c < 256
    · rw [hx z]
    · rw [decide_eq_false z]; rfl
  rw [e]; unfold bad
  cases (decide (c < 256) && (reCode.getD (7 + c / 32) 0).testBit (c % 32)) <;> cases isWord c <;> exact ⟨_, rfl⟩
theorem inSet5 (c : Nat) (seen : Seen) : ∃ seen', inSet reCode c 34 5 true seen = .ok (bad c, seen') := 
  inSet_at c 5 (reCode.getD (6 + (1 + c / 32)) 0) (fun _ => rfl) (fun _ => rfl) (fun _ => by
    show (category 4 c >>= _) = _
    have hcat : category 4 c = .ok (isWord c) := by
      show Except.ok (isWord c != (4 % 2 == 1)) = _
      cases isWord c <;> rfl
    rw [hcat]; rfl) (fun _ => rfl) (fun _ => by rw [← Nat.add_assoc]) seen
theorem inSet20 (c : Nat) (seen : Seen) : ∃ seen', inSet reCode c 34 20 true seen = .ok (bad c, seen') := 
  inSet_at c 20 (reCode.getD (21 + (1 + c / 32)) 0) (fun _ => rfl) (fun _ => rfl) (fun _ => by
    show (category 4 c >>= _) = _
    have hcat : category 4 c = .ok (isWord c) := by
      show Except.ok (isWord c != (4 % 2 == 1)) = _
      cases isWord c <;> rfl
    rw [hcat]; rfl) (fun _ => rfl) (fun h => by
    have h8 : c / 32 < 8 := Nat.div_lt_of_lt_mul h
    generalize c / 32 = k at h8
    have : ∀ k < 8, reCode.getD (20 + 1 + (1 + k)) 0 = reCode.getD (7 + k) 0 := by decide
    exact this k h8) seen

theorem admitted_none {m : M} (hc : m.code = reCode) : ∀ fuel s seen, (∀ i, s ≤ i → i < m.lim → bad (m.text.getD i 0) = false) → ∃ seen', M.admitted m fuel s seen = .ok (none, seen') := by
  intro fuel
  induction fuel with
  | zero => intro s seen _; exact ⟨_, rfl⟩
  | succ fuel ih =>
    intro s seen h
    show ∃ seen', (if s ≥ m.lim then _ else _) = _
    by_cases hs : s ≥ m.lim
    · rw [if_pos hs]; exact ⟨_, rfl⟩
    · rw [if_neg hs, hc]
      obtain ⟨seen', e⟩ := inSet5 (m.text.getD s 0) seen
      rw [show reCode.size = 34 from rfl, e, h s (Nat.le_refl _) (by (lia))]
      exact ih (s + 1) seen' fun i h1 h2 => h i (by (first | exact (ch1 1 0 0 0 h1 (Eq.refl true)) | omega)) h2

theorem admitted_some {m : M} (hc : m.code = reCode) : ∀ fuel s seen, fuel ≥ m.lim + 1 - s → (∃ i, s ≤ i ∧ i < m.lim ∧ bad (m.text.getD i 0) = true) → ∃ s' seen', M.admitted m fuel s seen = .ok (some s', seen') ∧ s' < m.lim ∧ bad (m.text.getD s' 0) = true := by
  intro fuel
  induction fuel with
  | zero => intro s seen hf ⟨i, h1, h2, _⟩; exact absurd hf (Nat.not_le.mpr (Nat.sub_pos_of_lt (Nat.lt_succ_of_lt (Nat.lt_of_le_of_lt h1 h2))))
  | succ fuel ih =>
    intro s seen hf ⟨i, h1, h2, h3⟩
    show ∃ s' seen', (if s ≥ m.lim then _ else _) = _ ∧ _
    rw [if_neg (Nat.not_le.mpr (Nat.lt_of_le_of_lt h1 h2)), hc]
    obtain ⟨seen', e⟩ := inSet5 (m.text.getD s 0) seen
    rw [show reCode.size = 34 from rfl, e]
    cases hb : bad (m.text.getD s 0) with
    | true => exact ⟨s, seen', rfl, by (first | exact (ch2 0 0 1 0 1 0 h1 h2 (Eq.refl true)) | omega), hb⟩
    | false =>
      refine ih (s + 1) seen' (by (first | exact (lin3 5 [_, _, _, _, _] 0 (.v 0) (.v 1) 1 (.v 2) (.a (.v 1) (.k 1)) 1 (.a (.v 0) (.a (.v 3) (.k 1))) (.a (.v 4) (.k 1)) 1 (.a (.v 4) (.k 1)) (.a (.v 2) (.v 3)) hf (Nat.le_of_eq (Nat.sub_add_cancel (lin2 3 [_, _, _] 0 (.a (.v 0) (.k 1)) (.a (.v 1) (.k 1)) 1 (.v 0) (.v 2) 1 (.a (.v 2) (.k 1)) (.v 1) h1 h2 rfl (Eq.refl true)))) (Nat.le_add_of_sub_le (Nat.le_refl _)) rfl (Eq.refl true)) | omega)) ⟨i, ?_, h2, h3⟩
      rcases Nat.lt_or_ge s i with z | z
      · (first | exact (ch1 1 0 1 0 z (Eq.refl true)) | exact (ch0 0 1 (Eq.refl true)) | exact (lin1 3 [_, _, _] 0 (.a (.v 0) (.v 1)) (.a (.v 2) (.v 0)) 1 (.v 1) (.v 2) ih rfl (Eq.refl true)) | exact (ch2 0 1 0 200 1 1000 (Nat.le_of_eq xl) hj (Eq.refl true)) | exact (Nat.ne_of_gt (lin1 2 [_, _] 0 (.a (.k 0) (.k 1)) (.v 0) 1 (.a (.v 1) (.k 1)) (.v 0) (Nat.le_of_eq xl.symm) rfl (Eq.refl true))) | exact (ch1 0 20 1 100 hl (Eq.refl true)) | omega)
      · have : i = s := by (first | exact (Nat.le_antisymm (lin1 2 [_, _] 0 (.v 0) (.v 1) 1 (.v 0) (.v 1) z rfl (Eq.refl true)) (lin1 2 [_, _] 0 (.v 0) (.v 1) 1 (.v 0) (.v 1) h1 rfl (Eq.refl true))) | omega)
        subst this; rw [h3] at hb; cases hb

noncomputable def m0 (text : Array Nat) : M := { code := reCode, text, lim := text.size, start := 0, lastStart := text.size, pc := 18, pos := 0, handed := 0, marks := #[], seen := ({} : Sre.Seen).add 14 }
theorem search_m0 (text : Array Nat) (hne : text.size ≠ 0) : forSearch reCode text 0 0 text.size false = (m0 text).attemptFrom 0 true := by
  have h0 : ¬ ((decide (0 > text.size) || decide (text.size - 0 < 1)) = true) := by
    rw [Bool.or_eq_true, decide_eq_true_eq, decide_eq_true_eq]; (lia)
  unfold forSearch
  rw [show header reCode = (1, 18) from rfl]
  (try dsimp only)
  rw [if_neg h0]
  rfl

theorem search_none (text : Array Nat) (hne : text.size ≠ 0) (h : ∀ i, i < text.size → bad (text.getD i 0) = false) :
    ((forSearch reCode text 0 0 text.size false).runFor 4).outcome = some .failed := by
  rw [search_m0 text hne]
  obtain ⟨seen', e⟩ := admitted_none (m := m0 text) rfl (text.size + 1 - 0) 0 (m0 text).seen fun i _ h2 => h i h2
  unfold M.attemptFrom
  rw [if_neg (by show ¬ ((!true) = true); decide)]
  show (M.runFor 4 (match M.admitted (m0 text) (text.size + 1 - 0) 0 (m0 text).seen with
  | .ok (some s, seen) => { m0 text with mustAdvance := false, seen }.attemptAt s true
  | .ok (none, seen) => { m0 text with seen }.say false
  | .error why => (m0 text).stick why)).outcome = _
  rw [e]
  rfl

theorem search_some (text : Array Nat) (h : ∃ i, i < text.size ∧ bad (text.getD i 0) = true) :
    ((forSearch reCode text 0 0 text.size false).runFor 4).outcome = some .matched ∧ ((forSearch reCode text 0 0 text.size false).runFor 4).marks = #[] := by
  refine hideL ?_; intro gg1
  obtain ⟨i, h1, h2⟩ := h
  k_unfold
  rw [search_m0 text (by (first | exact (Nat.ne_of_gt (lin1 2 [_, _] 0 (.a (.k 0) (.k 1)) (.v 0) 1 (.a (.v 1) (.k 1)) (.v 0) h1 rfl (Eq.refl true))) | omega))]
  refine hideL ?_; intro gg2
  obtain ⟨s', seen', e, h3, h4⟩ := admitted_some (m := m0 text) rfl (text.size + 1 - 0) 0 (m0 text).seen (Nat.le_refl _) ⟨i, Nat.zero_le _, h1, h2⟩
  k_unfold
  unfold M.attemptFrom
  rw [if_neg (by show ¬ ((!true) = true); decide)]
  show (M.runFor 4 (match M.admitted (m0 text) (text.size + 1 - 0) 0 (m0 text).seen with
  | .ok (some s, seen) => { m0 text with mustAdvance := false, seen }.attemptAt s true
  | .ok (none, seen) => { m0 text with seen }.say false
  | .error why => (m0 text).stick why)).outcome = _ ∧ (M.runFor 4 (match M.admitted (m0 text) (text.size + 1 - 0) 0 (m0 text).seen with
  | .ok (some s, seen) => { m0 text with mustAdvance := false, seen }.attemptAt s true
  | .ok (none, seen) => { m0 text with seen }.say false
  | .error why => (m0 text).stick why)).marks = _
  rw [e]
  (try dsimp only)
  -- the start
  let m1 : M := { m0 text with mustAdvance := false, seen := seen', start := s', pos := s', handed := s', weight := 1, frames := [{ wait := .nextStart, pc := 18, pos := s', outermost := true }] }
  have e1 : M.attemptAt { m0 text with mustAdvance := false, seen := seen' } s' true = m1 := rfl
  rw [e1]
  obtain ⟨seen2, e2⟩ := inSet20 (text.getD s' 0) (seen'.add 13)
  let m2 : M := { m1 with seen := seen2, pc := 33, pos := s' + 1 }
  have st1 : m1.step = m2 := by
    show M.exec m1 = m2
    unfold M.exec
    rw [show ops[m1.word 0]? = some .IN from rfl]
    (try dsimp only)
    rw [if_neg (show ¬ (m1.pos ≥ m1.lim) from Nat.not_le.mpr h3)]
    have ha : accepts reCode 18 (text.getD s' 0) (seen'.add 13) = .ok (true, seen2) := by
      show inSet reCode (text.getD s' 0) 34 20 true (seen'.add 13) = _
      rw [e2, show bad (text.getD s' 0) = true from h4]
    show (match accepts reCode 18 (text.getD s' 0) (seen'.add 13) with
      | .error why => _
      | .ok (false, seen) => _
      | .ok (true, seen) => _) = _
    rw [ha]
    rfl
  have r : M.runFor 4 m1 = M.runFor 3 m2 := by
    show M.runFor 3 m1.step = _
    rw [st1]
  rw [r]
  exact ⟨rfl, rfl⟩
end TD2
section TC5
open PySem PySem.W PyProof.Rows PySem.Calls
set_option maxHeartbeats 8000000

noncomputable def one (c : Nat) : Str := ⟨#[c]⟩
theorem slice_trim (y : Str) : Txt.slice (y ++ Str.ofString " ") none (some (-1)) = y := by
  have hl : (y ++ Str.ofString " ").length = y.length + 1 := by
    show (y.cps ++ (Str.ofString " ").cps).size = _
    rw [Array.size_append]; rfl
  have h := PyProof.Rows.slice_closes_to_neg (x := y ++ Str.ofString " ") (j := -1) (k := y.length) (by (lia)) (by rw [hl]; (lia)) (by rw [hl]; (lia))
  rw [eq_of_beq h]
  have hl2 : (y ++ Str.ofString " ").cps.toList = y.cps.toList ++ [32] := by
    show (y.cps ++ (Str.ofString " ").cps).toList = _
    rw [Array.toList_append]; rfl
  have hn : y.length = y.cps.toList.length := by simp [Str.length]
  rw [hl2, (by (lia) : ((y.length : Int) - 0).toNat = y.cps.toList.length), (by rfl : (0 : Int).toNat = 0), List.drop_zero, List.take_left]
theorem slice_one {x : Str} {k c : Nat} (h : x.cps.toList[k]? = some c) : Txt.slice x (some (k : Int)) (some ((k : Int) + 1)) = one c := by
  have hk : k < x.cps.toList.length := (List.getElem?_eq_some_iff.mp h).1
  have hn : x.length = x.cps.toList.length := by simp [Str.length]
  rw [eq_of_beq (PyProof.Rows.slice_closesL (x := x) (i := k) (j := k + 1) (by (lia)) (by (lia)) (by (lia)))]
  show (⟨_⟩ : Str) = ⟨⟨[c]⟩⟩
  congr 2
  rw [(by (lia) : ((k : Int) + 1 - k).toNat = 1), (by (lia) : ((k : Int)).toNat = k), List.drop_eq_getElem_cons hk]
  have := (List.getElem?_eq_some_iff.mp h).2
  simp [this]

theorem ct_index {w : World} {A : Around} {Q : Value → Shared → Prop} {s : Shared} {p : Program} {loose : List Str} {mean : ExcName → Option Value} {mg mb : Str → Option Value}
    (X : (Mine.top.heap_1_39 w.params).In s.heap) (T : Top p loose mean mg mb s.heap) (hroom : A.depth + 5 < recursionLimit) (t : Tok) (v : Value)
    (ret : ∀ h' tk t', Stays s.heap h' → Q (.int 1 t') { s with heap := h', toks := tk }) :
    wpAny (model PySem.Challenge.rw_aa0007_01.row.prog w) A (call (.ref 193) [.int 1 t, v]) Q noE s := by
  revert X; k_fill; intro X
  k_dflt (refine' enterK (binds := [(Str.ofString "n", Value.int 1 t), (Str.ofString "what", v)]) ?k1 ?k2 ?k6 ?k7 ?k8 ?k9 ?kB ?_ ?c5 ?c2 ?c3 ?c4; ((case k1 => assumption); (case k2 => exact Top.nolimit (by assumption)); (case k6 => k_is); (case k7 => k_is); (case k8 => (first | exact (ch1 6 0 1 0 hroom (Eq.refl true)) | omega)); (case k9 => exact BindsTo.of_eq rfl); (case c5 => decide); (case kB => exact locs rfl); (case c2 => exact rfl); (case c3 => exact rfl); (case c4 => exact rfl)))
  intro h₁ F
  (try k_extra "en")
  have N : News s.heap s.heap.objs.size h₁ [] := News.nil
  ((try k_extra "rf"); (repeat' (first | (k_extra "wb") | (k_extra "wl"))))
  (try dsimp only)
  rename News _ _ _ _ => N
  rename Fr _ _ _ _ => F
  exact ret _ _ _ F.keep

theorem ct_check {w : World} {A : Around} {Q : Value → Shared → Prop} {s : Shared} {p : Program} {loose : List Str} {mean : ExcName → Option Value} {mg mb : Str → Option Value} {h₀ : Heap}
    (X : (Mine.top.heap_1_39 w.params).In h₀) (T : Top p loose mean mg mb h₀) (st : Stays h₀ s.heap) (hroom : A.depth + 2 < recursionLimit)
    (x : Str) (t : Tok) (q dx : Addr) {u1 u2 u3 v1 : Tok} {c : Value} {n : Nat} (hq : s.heap.get? q = some (instObj 727 dx)) (hdx : s.heap.get? dx = some (dictOf (sioD w u1 u2 u3 v1 (.str x t) c) n)) (lq : dx < q) (nq : h₀.get? q = none) (nd : h₀.get? dx = none)
    (ret : ∀ h' tk, Stays s.heap h' → Q .none { s with heap := h', toks := tk }) :
    wpAny (model PySem.Challenge.rw_aa0007_01.row.prog w) A (call (.ref 511) [.ref q]) Q noE s := by
  revert X; k_fill; intro X
  k_dflt (refine' enterG (h₀ := h₀) (binds := [(Str.ofString "self", Value.ref q)]) [(q, instObj 727 dx), (dx, dictOf (sioD w u1 u2 u3 v1 (.str x t) c) n)] ?k1 ?k2 ?k3 ?k4 ?k6 ?k7 ?k8 ?k9 ?kB ?_ ?c5 ?c2 ?c3 ?c4; (case k4 => exact own_two hq hdx nq nd); ((case k1 => assumption); (case k2 => assumption); (case k3 => assumption); (case k6 => k_is); (case k7 => k_is); (case k8 => (first | exact (ch1 3 0 1 0 hroom (Eq.refl true)) | omega)); (case k9 => first | exact BindsTo.of_eq rfl | exact binds_K (Frag.In.keeps (by assumption) (by assumption)) rfl (by k_is) rfl rfl rfl); (case c5 => decide); (case kB => exact locs rfl); (case c2 => exact rfl); (case c3 => exact rfl); (case c4 => exact rfl)))
  have lq' : @LT.lt Nat _ dx q := lq
  intro g h₁ Xg Tg sg kept hsz F N
  (try k_extra "en")
  ((try k_extra "rf"); (repeat' (first | (k_extra "wb") | (k_extra "wl"))))
  (try dsimp only)
  rename News _ _ _ _ => N
  rename Fr _ _ _ _ => F
  exact ret _ _ (stays_two (kept _ F.keep) hq hdx (N _ (.head _)).1 (N _ (.tail _ (.head _))).1)

theorem sl_sp {x : Str} (hx : x.length < 100000) (a b : Option Int) : (Txt.slice x a b).length + (Str.ofString " ").length ≤ sizeLine :=
  Nat.le_trans (Nat.add_le_add (Nat.le_trans (Txt.slice_le _ _ _) (Nat.le_of_lt hx)) (Nat.le_of_eq (by decide +kernel : (Str.ofString " ").length = 1))) (by decide)
theorem sl_sp2 {x : Str} (hx : x.length < 100000) (a b : Option Int) : (Txt.slice x a b ++ Str.ofString " ").length ≤ sizeLine := by
  rw [show (Txt.slice x a b ++ Str.ofString " ").length = _ from Array.size_append]; exact sl_sp hx a b
theorem ct_read {w : World} {A : Around} {Q : Value → Shared → Prop} {s : Shared} {p : Program} {loose : List Str} {mean : ExcName → Option Value} {mg mb : Str → Option Value} {h₀ : Heap}
    (X : (Mine.top.heap_1_39 w.params).In h₀) (T : Top p loose mean mg mb h₀) (st : Stays h₀ s.heap) (hroom : A.depth + 10 < recursionLimit)
    (x : Str) (t ti : Tok) (hx : x.length < 100000) (q dx : Addr) {u1 u2 u3 v1 v3 : Tok} {k : Nat} (hk : k ≤ x.length) (hq : s.heap.get? q = some (instObj 727 dx)) (hdx : s.heap.get? dx = some (dictOf (sioD w u1 u2 u3 v1 (.str x t) (.int k v3)) 3)) (lq : dx < q) (nq : h₀.get? q = none) (nd : h₀.get? dx = none)
    (ret0 : k = x.length → ∀ h' tk t' v3', Kept [q, dx] s.heap h' → h'.get? q = some (instObj 727 dx) → h'.get? dx = some (dictOf (sioD w u1 u2 u3 v1 (.str x t) (.int k v3')) 3) → Q (.str (Str.ofString "") t') { s with heap := h', toks := tk })
    (ret1 : ∀ c, x.cps.toList[k]? = some c → ∀ h' tk t' v3', Kept [q, dx] s.heap h' → h'.get? q = some (instObj 727 dx) → h'.get? dx = some (dictOf (sioD w u1 u2 u3 v1 (.str x t) (.int (k + 1 : Nat) v3')) 3) → Q (.str (one c) t') { s with heap := h', toks := tk }) :
    wpAny (model PySem.Challenge.rw_aa0007_01.row.prog w) A (call (.ref 673) [.ref q, .int 1 ti]) Q noE s := by
  revert X; k_fill; intro X
  k_dflt (refine' enterG (h₀ := h₀) (binds := [(Str.ofString "self", Value.ref q), (Str.ofString "size", Value.int 1 ti)]) [(q, instObj 727 dx), (dx, dictOf (sioD w u1 u2 u3 v1 (.str x t) (.int k v3)) 3)] ?k1 ?k2 ?k3 ?k4 ?k6 ?k7 ?k8 ?k9 ?kB ?_ ?c5 ?c2 ?c3 ?c4; (case k4 => exact own_two hq hdx nq nd); ((case k1 => assumption); (case k2 => assumption); (case k3 => assumption); (case k6 => k_is); (case k7 => k_is); (case k8 => (first | exact (ch1 11 0 1 0 hroom (Eq.refl true)) | omega)); (case k9 => first | exact BindsTo.of_eq rfl | exact binds_K (Frag.In.keeps (by assumption) (by assumption)) rfl (by k_is) rfl rfl rfl); (case c5 => decide); (case kB => exact locs rfl); (case c2 => exact rfl); (case c3 => exact rfl); (case c4 => exact rfl)))
  have lq' : @LT.lt Nat _ dx q := lq
  intro g h₁ Xg Tg sg kept hsz F N
  (try k_extra "en")
  ((try k_extra "rf"); (repeat' (first | (k_extra "wb") | ((k_extra "lC"); (k_extra "wl")))))
  rename News _ _ _ _ => N
  rename Fr _ _ _ _ => F
  refine ct_index (Xg.keeps F.keep) (Tg.keeps F.keep) (by first | exact roomd hroom rfl | exact room2 (j := 1) hroom rfl | (simp only [depth_deeper]; omega)) _ _ ?_
  intro h2 tk2 ti2 st2
  have F2 := fr_stay F st2
  have N2 := news_stay N st2
  clear F N
  ((try k_extra "rf"); (repeat' (first | (k_extra "wb") | ((k_extra "lC"); (k_extra "wl")))))
  rename News _ _ _ _ => N
  rename Fr _ _ _ _ => F
  refine ct_check X T (fun b o e => F.keep b o (sg b o e)) (by first | exact roomd hroom rfl | exact room2 (j := 1) hroom rfl | (simp only [depth_deeper]; omega)) x t q dx (N _ (.head _)).1 (N _ (.tail _ (.head _))).1 lq nq nd ?_
  intro h3 tk3 st3
  have F3 := fr_stay F st3
  have N3 := news_stay N st3
  clear F N
  ((try k_extra "rf"); (repeat' (first | (k_extra "wb") | ((k_extra "lQ"); (k_extra "wl")))))
  have zs1 : x.length ≤ sizeLine := Nat.le_trans (Nat.le_of_lt hx) (by decide)
  by_cases hend : x.length ≤ k
  · refine ifT (decide_eq_true (Int.ofNat_le.mpr hend)) ?_
    ((try k_extra "rf"); (repeat' (first | (k_extra "wb") | (k_extra "wl"))))
    (try dsimp only)
    rename News _ _ _ _ => N
    rename Fr _ _ _ _ => F
    exact ret0 (by (first | exact (Nat.le_antisymm (lin1 2 [_, _] 0 (.v 0) (.v 1) 1 (.v 0) (.v 1) hk rfl (Eq.refl true)) (lin1 2 [_, _] 0 (.v 0) (.v 1) 1 (.v 0) (.v 1) hend rfl (Eq.refl true))) | omega)) _ _ _ _ (kept _ F.keep) (N _ (.head _)).1 (N _ (.tail _ (.head _))).1
  · refine ifF (fun z => hend (Int.ofNat_le.mp (of_decide_eq_true z))) ?_
    have hxl : x.length = x.cps.toList.length := by simp [Str.length]
    have hc : x.cps.toList[k]? = some x.cps.toList[k] := List.getElem?_eq_getElem (by rw [← hxl]; exact Nat.not_le.mp hend)
    ((try k_extra "rf"); (repeat' (first | (k_extra "wb") | ((k_extra "lQ"); (k_extra "wl")))))
    by_cases hlast : k + 1 < x.length
    · refine ifT (decide_eq_true (Int.ofNat_lt.mpr hlast)) ?_
      have zs2 := sl_sp hx (some (k : Int)) (some ((k : Int) + 1))
      have zs3 := sl_sp2 hx (some (k : Int)) (some ((k : Int) + 1))
      ((try k_extra "rf"); (repeat' (first | (k_extra "wb") | (k_extra "wl"))))
      (try dsimp only)
      rename News _ _ _ _ => N
      rename Fr _ _ _ _ => F
      rw [slice_trim, slice_one hc]
      exact ret1 _ hc _ _ _ _ (kept _ F.keep) (N _ (.head _)).1 (N _ (.tail _ (.head _))).1
    · refine ifF (fun z => hlast (Int.ofNat_lt.mp (of_decide_eq_true z))) ?_
      have zs2 := sl_sp hx (some (k : Int)) (some (x.length : Int))
      have zs3 := sl_sp2 hx (some (k : Int)) (some (x.length : Int))
      ((try k_extra "rf"); (repeat' (first | (k_extra "wb") | (k_extra "wl"))))
      (try dsimp only)
      rename News _ _ _ _ => N
      rename Fr _ _ _ _ => F
      have e : (x.length : Int) = k + 1 := by (lia)
      rw [e] at N ⊢
      rw [slice_trim, slice_one hc]
      exact ret1 _ hc _ _ _ _ (kept _ F.keep) (N _ (.head _)).1 (N _ (.tail _ (.head _))).1
end TC5
section TC6
open PySem PySem.W PyProof.Rows PySem.Calls
set_option maxHeartbeats 16000000

theorem Fr.look {h₀ h : Heap} {L : Addr} {m m' : Str → Option Value} (F : Fr h₀ L h m) (e : ∀ y, m y = m' y) : Fr h₀ L h m' := (funext e : m = m') ▸ F
theorem fr_kept {h₀ h h' : Heap} {L : Addr} {m : Str → Option Value} {W : List Addr} (F : Fr h₀ L h m) (k : Kept W h h') (hW : ∀ a ∈ W, a ≠ L ∧ h₀.get? a = none) : Fr h₀ L h' m := by
  refine hideL ?_; intro gg1
  obtain ⟨oL, p, ep, hL, r⟩ := F.ns
  k_unfold
  exact ⟨⟨oL, p, ep, k _ _ (fun hb => (hW _ hb).1 rfl) hL, r⟩, fun b o e => k b o (fun hb => by rw [(hW _ hb).2] at e; cases e) (F.keep b o e), F.above⟩
theorem news_get {h₀ h h' : Heap} {L a : Addr} {o o' : Obj} {news news' : List (Addr × Obj)} (N : News h₀ L h news) (m : (a, o) ∈ news) (e : h'.get? a = some o') (N' : News h₀ L h' news') : News h₀ L h' ((a, o') :: news') :=
  List.forall_mem_cons.mpr ⟨⟨e, (N _ m).2⟩, N'⟩
noncomputable abbrev rtM (q : Addr) (nc : Option Value) (qd : Bool) (te : Tok) : Str → Option Value := fun y => if y = Str.ofString "nextchar" then nc else if y = Str.ofString "escapedstate" then some (.str (Str.ofString " ") te) else if y = Str.ofString "quoted" then some (.bool qd) else List.lookup y [(Str.ofString "self", Value.ref q)].reverse

theorem one_ne {c d : Nat} {e : String} (h : c ≠ d) (he : Str.ofString e = one d) : ¬ ((one c == Str.ofString e) = true) := by
  rw [he]; intro hb
  have := eq_of_beq hb
  injection this with this
  injection this with this
  injection this with this
  exact h this
theorem news_tail {h₀ h : Heap} {L : Addr} {x : Addr × Obj} {news : List (Addr × Obj)} (N : News h₀ L h (x :: news)) : News h₀ L h news := fun p hp => N p (.tail _ hp)
theorem not_in {hay : Str} {c : Nat} (l : List Nat) (h : c ∉ l) (he : hay.cps.toList = l) : ¬ ((!(Builtin.Str.occurrences hay (one c) 0 hay.length 1).isEmpty) = true) := by
  subst he
  show ¬ ((!(Builtin.Str.occurrences hay ⟨#[c]⟩ 0 hay.length 1).isEmpty) = true)
  rw [StrLaws.found_one]; simpa using h
theorem tx_push (l : List Nat) (c : Nat) : tx l ++ one c = tx (l ++ [c]) := by
  show (⟨l.toArray ++ #[c]⟩ : Str) = ⟨(l ++ [c]).toArray⟩
  congr 1; simp
theorem one_ne1 {c d : Nat} (h : c ≠ d) : ¬ ((one c == one d) = true) := by
  intro hb
  have := eq_of_beq hb
  injection this with this
  injection this with this
  injection this with this
  exact h this
theorem rtM_nc {q : Addr} {nc : Option Value} {qd : Bool} {te : Tok} {v : Value} (y : Str) : (if y = Str.ofString "nextchar" then some v else rtM q nc qd te y) = rtM q (some v) qd te y := by
  unfold rtM; split <;> rfl
theorem rtM_qd {q : Addr} {nc : Option Value} {qd b : Bool} {te : Tok} (y : Str) : (if y = Str.ofString "quoted" then some (.bool b) else rtM q nc qd te y) = rtM q nc b te y := by
  unfold rtM
  by_cases a : y = Str.ofString "quoted"
  · subst a; rw [if_pos rfl, if_neg (by decide +kernel), if_neg (by decide +kernel), if_pos rfl]
  · simp only [if_neg a]
theorem ct_pc {w : World} {A : Around} {R : Result → Shared → Prop} {s : Shared} {p : Program} {loose : List Str} {mean : ExcName → Option Value} {mg mb : Str → Option Value} {h₀ : Heap}
    (X : (Mine.top.heap_1_39 w.params).In h₀) (T : Top p loose mean mg mb h₀) (st₀ : Stays h₀ s.heap) (hroom : A.depth + 2 < recursionLimit)
    {q dx : Addr} {kk : Nat → Tok} {qs d1 d2 : Addr} {comm split st lineno token : Value}
    (hq : s.heap.get? q = some (instObj 911 dx)) (hdx : s.heap.get? dx = some (dictOf (lexD w kk qs d1 d2 comm split st lineno token) 19))
    (lq : dx < q) (nq : h₀.get? q = none) (nd : h₀.get? dx = none)
    (ret : ∀ h' tk, Stays s.heap h' → R (.ok (.ret (.str (Str.ofString "") (kk 26)))) { s with heap := h', toks := tk }) :
    codeAny (model PySem.Challenge.rw_aa0007_01.row.prog w) A (.call (.ref 842) ⟨[.ref q], []⟩) R s := by
  revert X; k_fill; intro X
  k_dflt (refine' enterGc (h₀ := h₀) (binds := [(Str.ofString "self", Value.ref q)]) [(q, instObj 911 dx), (dx, dictOf (lexD w kk qs d1 d2 comm split st lineno token) 19)] ?k1 ?k2 ?k3 ?k4 ?k6 ?k7 ?k8 ?k9 ?kB ?_ ?c5 ?c2 ?c3 ?c4; (case k4 => exact own_two hq hdx nq nd); ((case k1 => assumption); (case k2 => assumption); (case k3 => assumption); (case k6 => k_is); (case k7 => k_is); (case k8 => (first | exact (ch1 3 0 1 0 hroom (Eq.refl true)) | omega)); (case k9 => first | exact BindsTo.of_eq rfl | exact binds_K (Frag.In.keeps (by assumption) (by assumption)) rfl (by k_is) rfl rfl rfl); (case c5 => decide); (case kB => exact locs rfl); (case c2 => exact rfl); (case c3 => exact rfl); (case c4 => exact rfl)))
  have lq' : @LT.lt Nat _ dx q := lq
  intro g h₁ Xg Tg sg kept hsz F N
  (try k_extra "en")
  ((try k_extra "rf"); (repeat' (first | (k_extra "wb") | (k_extra "wo"))))
  (try dsimp only)
  rename News _ _ _ _ => N
  rename Fr _ _ _ _ => F
  exact ret _ _ (stays_two (kept _ F.keep) hq hdx (N _ (.head _)).1 (N _ (.tail _ (.head _))).1)

inductive RtI (w : World) (s : Shared) (g : Heap) (q dx qs ds d1 d2 : Addr) (kk : Nat → Tok) (u1 u2 u3 v1 : Tok) (ln : Int) (x : Str) (t : Tok) (res : List Nat × Bool × Bool × List Nat) (n : Nat) (s' : Shared) : Prop where
  | mk (h : Heap) (tk : Nat) (nc : Option Value) (te : Tok) (sc : Nat) (tok : List Nat) (qd : Bool) (k : Nat) (v3 c1 c2 c3 c4 : Tok) (tv : Str) (e : s' = { s with heap := h, toks := tk }) (F : Fr g s.heap.objs.size h (rtM q nc qd te))
    (N : News g s.heap.objs.size h [(q, instObj 911 dx), (dx, dictOf (lexD w kk qs d1 d2 (.str (Str.ofString "") c1) (.bool true) (.str (one sc) c2) (.int ln c3) (.str tv c4)) 19), (qs, instObj 727 ds), (ds, dictOf (sioD w u1 u2 u3 v1 (.str x t) (.int (k : Nat) v3)) 3)])
    (hk : k ≤ x.length) (hr : tokF (x.cps.toList.drop k) sc tok qd = some res) (hsc : sc = 32 ∨ sc = 97 ∨ sc = 39 ∨ sc = 34) (hl : tok.length ≤ k) (et : tv = tx tok) (en : n = x.length - k + 1)
inductive RtP (w : World) (s : Shared) (g : Heap) (q dx qs ds d1 d2 : Addr) (kk : Nat → Tok) (u1 u2 u3 v1 : Tok) (ln : Int) (x : Str) (t : Tok) (res : List Nat × Bool × Bool × List Nat) (s' : Shared) : Prop where
  | mk (h : Heap) (tk : Nat) (nc : Option Value) (te : Tok) (stV : Value) (tok : List Nat) (qd : Bool) (k : Nat) (v3 c1 c3 c4 : Tok) (tv : Str) (e : s' = { s with heap := h, toks := tk }) (F : Fr g s.heap.objs.size h (rtM q nc qd te))
    (N : News g s.heap.objs.size h [(q, instObj 911 dx), (dx, dictOf (lexD w kk qs d1 d2 (.str (Str.ofString "") c1) (.bool true) stV (.int ln c3) (.str tv c4)) 19), (qs, instObj 727 ds), (ds, dictOf (sioD w u1 u2 u3 v1 (.str x t) (.int (k : Nat) v3)) 3)])
    (hk : k ≤ x.length) (e1 : x.cps.toList.drop k = res.2.2.2) (e2 : tok = res.1) (e3 : qd = res.2.1) (e4 : res.2.2.1 = true → stV = .none) (e5 : res.2.2.1 = false → ∃ u, stV = .str (one 32) u) (e6 : tok.length ≤ k) (et : tv = tx tok)

theorem ct_rtok {w : World} {A : Around} {Q : Value → Shared → Prop} {s : Shared} {p : Program} {loose : List Str} {mean : ExcName → Option Value} {mg mb : Str → Option Value} {h₀ : Heap}
    (X : (Mine.top.heap_1_39 w.params).In h₀) (T : Top p loose mean mg mb h₀) (st₀ : Stays h₀ s.heap) (hroom : A.depth + 20 < recursionLimit)
    (x : Str) (t : Tok) (hx : x.length < 100000) (hok : ∀ c ∈ x.cps.toList, okc c) (q dx qs ds d1 d2 : Addr) {u1 u2 u3 v1 v3 c1 c2 c3 c4 : Tok} {k : Nat} {ln : Int} (hk : k ≤ x.length)
    {res : List Nat × Bool × Bool × List Nat} (hres : tokF (x.cps.toList.drop k) 32 [] false = some res)
    (hq : s.heap.get? q = some (instObj 911 dx)) (hdx : Lex w s.heap dx qs d1 d2 (.str (Str.ofString "") c1) (.bool true) (.str (one 32) c2) (.int ln c3) (.str (Str.ofString "") c4))
    (hqs : s.heap.get? qs = some (instObj 727 ds)) (hds : s.heap.get? ds = some (dictOf (sioD w u1 u2 u3 v1 (.str x t) (.int k v3)) 3))
    (lq : dx < q) (ls : q < ds) (lz : ds < qs) (nq : h₀.get? q = none) (nd : h₀.get? dx = none) (nqs : h₀.get? qs = none) (nds : h₀.get? ds = none)
    (ret : ∀ h' tk stV k' v3' c1' c3' c4' t', Kept [q, dx, qs, ds] s.heap h' → h'.get? q = some (instObj 911 dx) → Lex w h' dx qs d1 d2 (.str (Str.ofString "") c1') (.bool true) stV (.int ln c3') (.str (Str.ofString "") c4') →
      h'.get? qs = some (instObj 727 ds) → h'.get? ds = some (dictOf (sioD w u1 u2 u3 v1 (.str x t) (.int (k' : Nat) v3')) 3) → k' ≤ x.length → x.cps.toList.drop k' = res.2.2.2 → (res.2.2.1 = true → stV = .none) → (res.2.2.1 = false → ∃ u, stV = .str (one 32) u) →
      Q (if res.2.1 = false ∧ res.1 = [] then .none else .str (tx res.1) t') { s with heap := h', toks := tk }) :
    wpAny (model PySem.Challenge.rw_aa0007_01.row.prog w) A (call (.ref 879) [.ref q]) Q noE s := by
  revert X; k_fill; intro X
  obtain ⟨kk, hdx0⟩ := hdx
  have hdx : s.heap.get? dx = some (dictOf (lexD w kk qs d1 d2 (.str (Str.ofString "") c1) (.bool true) (.str (one 32) c2) (.int ln c3) (.str (tx []) c4)) 19) := by
    rw [(by decide +kernel : tx [] = Str.ofString "")]; exact hdx0
  clear hdx0
  k_dflt (refine' enterG (h₀ := h₀) (binds := [(Str.ofString "self", Value.ref q)]) [(q, instObj 911 dx), (dx, dictOf (lexD w kk qs d1 d2 (.str (Str.ofString "") c1) (.bool true) (.str (one 32) c2) (.int ln c3) (.str (tx []) c4)) 19), (qs, instObj 727 ds), (ds, dictOf (sioD w u1 u2 u3 v1 (.str x t) (.int k v3)) 3)] ?k1 ?k2 ?k3 ?k4 ?k6 ?k7 ?k8 ?k9 ?kB ?_ ?c5 ?c2 ?c3 ?c4; (case k4 => exact List.forall_mem_cons.mpr ⟨⟨hq, nq⟩, List.forall_mem_cons.mpr ⟨⟨hdx, nd⟩, List.forall_mem_cons.mpr ⟨⟨hqs, nqs⟩, List.forall_mem_cons.mpr ⟨⟨hds, nds⟩, List.forall_mem_nil _⟩⟩⟩⟩); ((case k1 => assumption); (case k2 => assumption); (case k3 => assumption); (case k6 => k_is); (case k7 => k_is); (case k8 => (first | exact (ch1 21 0 1 0 hroom (Eq.refl true)) | omega)); (case k9 => first | exact BindsTo.of_eq rfl | exact binds_K (Frag.In.keeps (by assumption) (by assumption)) rfl (by k_is) rfl rfl rfl); (case c5 => decide); (case kB => exact locs rfl); (case c2 => exact rfl); (case c3 => exact rfl); (case c4 => exact rfl)))
  have lq' : @LT.lt Nat _ dx q := lq
  have ls' : @LT.lt Nat _ q ds := ls
  have lz' : @LT.lt Nat _ ds qs := lz
  have ne1 : @Ne Nat q dx := Nat.ne_of_gt lq'
  have ne2 : @Ne Nat qs dx := Nat.ne_of_gt (Nat.lt_trans lq' (Nat.lt_trans ls' lz'))
  have ne3 : @Ne Nat ds dx := Nat.ne_of_gt (Nat.lt_trans lq' ls')
  intro g h₁ Xg Tg sg kept hsz F N
  (try k_extra "en")
  ((try k_extra "rf"); (repeat' (first | (k_extra "v0") | (k_extra "wn") | ((k_extra "ge"); (k_extra "ve")) | ((k_extra "gx"); (k_extra "lW"); (k_extra "vx")) | (k_extra "rq") | ((k_extra "lW"); (k_extra "wo")))))
  rename News _ _ _ _ => N
  rename Fr _ _ _ _ => F
  have F0 := Fr.look (m' := rtM q none false _) F (fun y => by
    by_cases a : y = Str.ofString "nextchar"
    · subst a; rfl
    · simp only [rtM, if_neg a]; rfl)
  clear F
  let I : Nat → Shared → Prop := RtI w s g q dx qs ds d1 d2 kk u1 u2 u3 v1 ln x t res
  let P : Shared → Prop := RtP w s g q dx qs ds d1 d2 kk u1 u2 u3 v1 ln x t res
  refine wpAny_mono (Q := fun f s' => f = .next ∧ P s') (while_ I ?_ (x.length - k + 1) ⟨_, _, _, _, 32, [], false, k, v3, c1, c2, c3, c4, _, rfl, F0, N, hk, hres, .inl rfl, Nat.zero_le _, rfl, rfl⟩) ?_ (fun _ _ x => x)
  · clear F0 N hres hk hq hdx hqs hds
    rintro nI s' hp2_2
    refine hideL ?_; intro gg2
    obtain ⟨h, tk, nc, te, sc, tok, qd, k, v3, c1, c2, c3, c4, tv, rfl, F, N, hk, hres, hsc, htok, et, rfl⟩ := hp2_2
    k_unfold
    ((try k_extra "rf"); (repeat' (first | (k_extra "wb") | ((k_extra "lGa"); (k_extra "wo")))))
    (rename News _ _ _ _ => N; rename Fr _ _ _ _ => F; k_dflt (refine' get_prop ?k1 ?k2 ?k3 ?k4 ?k5 ?k6 ?k7 ?k8 ?k9 ?_; (case k1 => k_asm); (case k2 => k_asm); (case k3 => k_inst); (case k4 => k_is); (case k5 => k_is); (case k6 => k_is); (case k7 => k_is); (case k8 => k_is); (case k9 => k_is)); refine ct_pc X T (fun b o e => F.keep b o (sg b o e)) (by first | exact roomd hroom rfl | exact room2 (j := 1) hroom rfl | (simp only [depth_deeper]; omega)) (N _ (.head _)).1 (N _ (.tail _ (.head _))).1 lq nq nd ?_; intro h2 tk2 st2; have F2 := fr_stay F st2; have N2 := news_stay N st2; clear F N; dsimp only; refine handed_on rfl ?_; clear st2; (try dsimp only))
    ((try k_extra "rf"); (repeat' (first | (k_extra "wb") | ((k_extra "lC"); (k_extra "wo")))))
    rename News _ _ _ _ => N
    rename Fr _ _ _ _ => F
    have wqs : ∀ a ∈ [qs, ds], a ≠ s.heap.objs.size ∧ g.get? a = none := List.forall_mem_cons.mpr ⟨(N _ (.tail _ (.tail _ (.head _)))).2, List.forall_mem_cons.mpr ⟨(N _ (.tail _ (.tail _ (.tail _ (.head _))))).2, List.forall_mem_nil _⟩⟩
    have nin : q ∉ [qs, ds] ∧ dx ∉ [qs, ds] := by
      constructor <;> simp only [List.mem_cons, List.not_mem_nil, or_false, not_or] <;> constructor <;> (refine Nat.ne_of_lt ?_; (first | exact (ch2 1 0 1 0 1 0 ls lz (Eq.refl true)) | exact (ch1 1 0 1 0 ls (Eq.refl true)) | exact (ch3 1 0 1 0 1 0 1 0 lq ls lz (Eq.refl true)) | exact (ch2 1 0 1 0 1 0 lq ls (Eq.refl true)) | omega))
    refine ct_read X T (fun b o e => F.keep b o (sg b o e)) (by first | exact roomd hroom rfl | exact room2 (j := 1) hroom rfl | (simp only [depth_deeper]; omega)) x t _ hx qs ds hk (N _ (.tail _ (.tail _ (.head _)))).1 (N _ (.tail _ (.tail _ (.tail _ (.head _))))).1 lz nqs nds ?_ ?_
    · intro hke h2 tk2 t'2 v3' kp e1 e2
      have F2 := fr_kept F kp wqs
      have N2 := news_get N (.head _) (kp _ _ nin.1 (N _ (.head _)).1) (news_get N (.tail _ (.head _)) (kp _ _ nin.2 (N _ (.tail _ (.head _))).1) (news_get N (.tail _ (.tail _ (.head _))) e1 (news_get N (.tail _ (.tail _ (.tail _ (.head _)))) e2 News.nil)))
      dsimp only at N2
      clear F N kp e1 e2
      ((try k_extra "rf"); (repeat' (first | (k_extra "wb") | ((k_extra "lQ"); (k_extra "wo")))))
      have hres' : sc = 32 ∨ sc = 97 := by
        rw [hke, List.drop_of_length_le (Nat.le_of_eq (by simp [Str.length]))] at hres
        rw [tokF_nil] at hres
        by_cases z : sc = 32 ∨ sc = 97
        · exact z
        · rw [if_neg z] at hres; cases hres
      rcases hres' with rfl | rfl
      · ((try k_extra "rf"); (repeat' (first | (k_extra "w1") | (k_end; (k_extra "lAn"); (k_extra "vn")) | (k_extra "rq") | (k_extra "wo"))))
        (rename News _ _ _ _ => N; rename Fr _ _ _ _ => F; (repeat (k_unfold; (try dsimp only))); (try dsimp only at F N ⊢); rw [hke, List.drop_of_length_le (Nat.le_of_eq (by simp [Str.length]))] at hres; have hres2 : some (tok, qd, true, []) = some res := hres; obtain rfl := Option.some.inj hres2; exact ⟨by first | rfl | trivial, _, _, _, te, _, tok, qd, k, _, _, _, _, _, rfl, Fr.look F (fun y => rtM_nc y), N, hk, by rw [hke, List.drop_of_length_le (Nat.le_of_eq (by simp [Str.length]))], rfl, rfl, fun _ => rfl, fun e => (Bool.noConfusion e : False).elim, htok, et⟩)
      · ((try k_extra "rf"); (repeat' (first | (k_extra "w1") | (k_end; (k_extra "lAn"); (k_extra "vn")) | (k_extra "rq") | (k_extra "wo"))))
        (rename News _ _ _ _ => N; rename Fr _ _ _ _ => F; (repeat (k_unfold; (try dsimp only))); (try dsimp only at F N ⊢); rw [hke, List.drop_of_length_le (Nat.le_of_eq (by simp [Str.length]))] at hres; have hres2 : some (tok, qd, true, []) = some res := hres; obtain rfl := Option.some.inj hres2; exact ⟨by first | rfl | trivial, _, _, _, te, _, tok, qd, k, _, _, _, _, _, rfl, Fr.look F (fun y => rtM_nc y), news_tail N, hk, by rw [hke, List.drop_of_length_le (Nat.le_of_eq (by simp [Str.length]))], rfl, rfl, fun _ => rfl, fun e => (Bool.noConfusion e : False).elim, htok, et⟩)
    · intro c hc h2 tk2 t'2 v3' kp e1 e2
      have F2 := fr_kept F kp wqs
      have N2 := news_get N (.head _) (kp _ _ nin.1 (N _ (.head _)).1) (news_get N (.tail _ (.head _)) (kp _ _ nin.2 (N _ (.tail _ (.head _))).1) (news_get N (.tail _ (.tail _ (.head _))) e1 (news_get N (.tail _ (.tail _ (.tail _ (.head _)))) e2 News.nil)))
      dsimp only at N2
      clear F N kp e1 e2
      have hlt : k < x.cps.toList.length := (List.getElem?_eq_some_iff.mp hc).1
      have hdr : x.cps.toList.drop k = c :: x.cps.toList.drop (k + 1) := by rw [List.drop_eq_getElem_cons hlt, (List.getElem?_eq_some_iff.mp hc).2]
      rw [hdr] at hres
      have hlt' : k < x.length := by have : x.length = x.cps.toList.length := by simp [Str.length]
                                     (first | exact (ch3 0 0 1 0 1 0 0 0 hC hCD z (Eq.refl true)) | exact (ch2 1 0 0 0 1 0 hlt (Nat.le_of_eq this.symm) (Eq.refl true)) | exact (ch3 821 0 0 0 1 0 2 0 z0 hC hCD (Eq.refl true)) | exact (And.intro (lin0 1 [_] (.k 5) (.a (.v 0) (.a (.a (.a (.a (.a (.k 0) (.k 1)) (.k 1)) (.k 1)) (.k 1)) (.k 1))) rfl (Eq.refl true)) (lin1 1 [_] 0 (.a (.v 0) (.a (.a (.a (.a (.a (.k 0) (.k 1)) (.k 1)) (.k 1)) (.k 1)) (.k 1))) (.k 11) 1 (.v 0) (.k 6) (Nat.min_le_left _ _) rfl (Eq.refl true))) | exact (lin1 1 [_] 0 (.a (.a (.a (.k 0) (.k 1)) (.v 0)) (.k 1)) (.k 1000) 1 (.v 0) (.k 200) this rfl (Eq.refl true)) | exact (Nat.le_antisymm (lin1 2 [_, _] 0 (.v 0) (.v 1) 1 (.v 0) (.v 1) hc3 rfl (Eq.refl true)) (lin1 2 [_, _] 0 (.v 0) (.v 1) 1 (.v 0) (.v 1) this rfl (Eq.refl true))) | exact (lin2 2 [_, _] 0 (.a (.a (.v 0) (.v 1)) (.k 1)) (.k 900) 1 (.v 1) (.k 200) 1 (.v 0) (.k 1) h1 (Nat.le_of_eq this) rfl (Eq.refl true)) | exact (ch4 0 0 0 0 1 11 1000 0 0 0 (Nat.le_of_eq h1) h2 zi h3 (Eq.refl true)) | exact (ch4 0 0 0 0 1 11 1000 0 0 0 (Nat.le_of_eq h1) h2 zi z1000 (Eq.refl true)) | omega)
      have hoc := hok c (List.mem_of_getElem? hc)
      have o1 : ¬ ((one c == Str.ofString "\n") = true) := one_ne (he := by decide +kernel) hoc.1
      have z1 : (one c).length = 1 := rfl
      have z1' : ((one c).length : Int) < 9223372036854775808 := (by decide : ((1 : Nat) : Int) < 9223372036854775808)
      have z2 : tv.length ≤ 100000 := Nat.le_trans (by rw [et]; show tok.toArray.size ≤ k; rw [List.size_toArray]; exact htok) (Nat.le_trans hk (Nat.le_of_lt hx))
      have z3 : tv.length + (one c).length ≤ sizeLine := Nat.le_trans (Nat.add_le_add z2 (Nat.le_of_eq z1)) (by decide)
      have z4 : (tv.length : Int) < 9223372036854775808 := Int.lt_of_le_of_lt (Int.ofNat_le.mpr z2) (by decide)
      ((try k_extra "rf"); (repeat' (first | (k_extra "wb") | ((k_extra "lQ"); (k_extra "wo")))))
      have hsc3 : sc = 32 ∨ sc = 97 ∨ (sc = 39 ∨ sc = 34) := hsc
      rcases hsc3 with rfl | rfl | hs
      · by_cases hc1 : c = 32
        · subst hc1; cases hres
        have hn1 := not_in (he := by decide +kernel) (hay := Str.ofString " \t\r\n") (c := c) [32, 9, 13, 10] (by simp [hc1, hoc.1, hoc.2.1, hoc.2.2.1])
        have hn2 := not_in (he := by decide +kernel) (hay := Str.ofString "") (c := c) [] (by simp)
        have hn3 := not_in (he := by decide +kernel) (hay := Str.ofString "\\") (c := c) [92] (by simp [hoc.2.2.2])
        ((try k_extra "rf"); (repeat' (first | (k_extra "w1") | (k_end; (k_extra "lAn"); (k_extra "lEx"); (k_extra "vn")) | (k_extra "rq") | ((k_extra "lQ"); (k_extra "wo")))))
        by_cases hw : (!(Builtin.Str.occurrences lexW (one c) 0 lexW.length 1).isEmpty) = true
        · have hcq : ¬ (c = 39 ∨ c = 34) := by rintro (rfl | rfl) <;> exact absurd hw (by decide +kernel)
          ((try k_extra "rf"); (repeat' (first | (k_extra "w1") | (k_end; (k_extra "lAn"); (k_extra "lEx"); (k_extra "vn")) | (k_extra "rq") | ((k_extra "lQ"); (k_extra "wo")))))
          rename News _ _ _ _ => N
          rename Fr _ _ _ _ => F
          (repeat (k_unfold; (try dsimp only)))
          (try dsimp only at F N ⊢)
          exact ⟨x.length - (k + 1) + 1, lt_turn hlt', _, _, some _, te, 97, [c], qd, k + 1, _, _, _, _, _, _, rfl, Fr.look F (fun y => rtM_nc y), N, hlt', by rw [← hres, tok32o hc1 hcq], by decide, by first | exact Nat.le_succ_of_le htok | exact Nat.succ_le_succ (Nat.zero_le _) | (rw [List.length_append]; exact Nat.succ_le_succ htok), rfl, rfl⟩
        · ((try k_extra "rf"); (repeat' (first | (k_extra "w1") | (k_end; (k_extra "lAn"); (k_extra "lEx"); (k_extra "vn")) | (k_extra "rq") | ((k_extra "lQ"); (k_extra "wo")))))
          (rename News _ _ _ _ => N; rename Fr _ _ _ _ => F; k_dflt (refine' get_prop ?k1 ?k2 ?k3 ?k4 ?k5 ?k6 ?k7 ?k8 ?k9 ?_; (case k1 => k_asm); (case k2 => k_asm); (case k3 => k_inst); (case k4 => k_is); (case k5 => k_is); (case k6 => k_is); (case k7 => k_is); (case k8 => k_is); (case k9 => k_is)); refine ct_pc X T (fun b o e => F.keep b o (sg b o e)) (by first | exact roomd hroom rfl | exact room2 (j := 1) hroom rfl | (simp only [depth_deeper]; omega)) (N _ (.head _)).1 (N _ (.tail _ (.head _))).1 lq nq nd ?_; intro h2 tk2 st2; have F2 := fr_stay F st2; have N2 := news_stay N st2; clear F N; dsimp only; refine handed_on rfl ?_; clear st2; (try dsimp only))
          ((try k_extra "rf"); (repeat' (first | (k_extra "w1") | (k_end; (k_extra "lAn"); (k_extra "lEx"); (k_extra "vn")) | (k_extra "rq") | ((k_extra "lQ"); (k_extra "wo")))))
          by_cases hcq : c = 39 ∨ c = 34
          · have hy4 : (!(Builtin.Str.occurrences (Str.ofString "'\"") (one c) 0 (Str.ofString "'\"").length 1).isEmpty) = true := by rcases hcq with rfl | rfl <;> decide +kernel
            ((try k_extra "rf"); (repeat' (first | (k_extra "w1") | (k_end; (k_extra "lAn"); (k_extra "lEx"); (k_extra "vn")) | (k_extra "rq") | ((k_extra "lQ"); (k_extra "wo")))))
            rename News _ _ _ _ => N
            rename Fr _ _ _ _ => F
            (repeat (k_unfold; (try dsimp only)))
            (try dsimp only at F N ⊢)
            exact ⟨x.length - (k + 1) + 1, lt_turn hlt', _, _, some _, te, c, tok, qd, k + 1, _, _, _, _, _, _, rfl, Fr.look F (fun y => rtM_nc y), N, hlt', by rw [← hres, tok32q hcq], by rcases hcq with h | h <;> simp [h], by first | exact Nat.le_succ_of_le htok | exact Nat.succ_le_succ (Nat.zero_le _) | (rw [List.length_append]; exact Nat.succ_le_succ htok), et, rfl⟩
          · have hn4 := not_in (he := by decide +kernel) (hay := Str.ofString "'\"") (c := c) [39, 34] (by simpa only [List.mem_cons, List.not_mem_nil, or_false] using hcq)
            ((try k_extra "rf"); (repeat' (first | (k_extra "w1") | (k_end; (k_extra "lAn"); (k_extra "lEx"); (k_extra "vn")) | (k_extra "rq") | ((k_extra "lQ"); (k_extra "wo")))))
            rename News _ _ _ _ => N
            rename Fr _ _ _ _ => F
            (repeat (k_unfold; (try dsimp only)))
            (try dsimp only at F N ⊢)
            exact ⟨x.length - (k + 1) + 1, lt_turn hlt', _, _, some _, te, 97, [c], qd, k + 1, _, _, _, _, _, _, rfl, Fr.look F (fun y => rtM_nc y), N, hlt', by rw [← hres, tok32o hc1 hcq], by decide, by first | exact Nat.le_succ_of_le htok | exact Nat.succ_le_succ (Nat.zero_le _) | (rw [List.length_append]; exact Nat.succ_le_succ htok), rfl, rfl⟩
      · ((try k_extra "rf"); (repeat' (first | (k_extra "w1") | (k_end; (k_extra "lAn"); (k_extra "lEx"); (k_extra "vn")) | (k_extra "rq") | ((k_extra "lQ"); (k_extra "wo")))))
        by_cases hc1 : c = 32
        · subst hc1
          ((try k_extra "rf"); (repeat' (first | (k_extra "w1") | (k_end; (k_extra "lAn"); (k_extra "lEx"); (k_extra "vn")) | (k_extra "rq") | ((k_extra "lQ"); (k_extra "wo")))))
          rw [tok97s] at hres
          by_cases ht : tok = [] 
          · subst ht
            have ht0 : ¬ (((tv.length : Int) != 0) = true) := by rw [et]; decide
            obtain rfl : qd = true := by
              cases qd with
              | true => rfl
              | false => cases hres
            ((try k_extra "rf"); (repeat' (first | (k_extra "w1") | (k_end; (k_extra "lAn"); (k_extra "lEx"); (k_extra "vn")) | (k_extra "rq") | ((k_extra "lQ"); (k_extra "wo")))))
            (try dsimp only)
            rename News _ _ _ _ => N
            rename Fr _ _ _ _ => F
            (repeat (k_unfold; (try dsimp only)))
            (try dsimp only at F N ⊢)
            rw [if_neg (by simp)] at hres
            obtain rfl := Option.some.inj hres
            exact ⟨by first | rfl | trivial, _, _, _, te, _, [], _, k + 1, _, _, _, _, _, rfl, Fr.look F (fun y => rtM_nc y), news_tail N, hlt', rfl, rfl, rfl, fun e => (Bool.noConfusion e : False).elim, fun _ => ⟨_, by rw [(by decide +kernel : Str.ofString " " = one 32)]⟩, Nat.zero_le _, et⟩
          · have ht2 : ((tv.length : Int) != 0) = true := by
              rw [et]
              exact bne_iff_ne.mpr fun z => ht (List.length_eq_zero_iff.mp (List.size_toArray.symm.trans (Int.natCast_eq_zero.mp z)))
            ((try k_extra "rf"); (repeat' (first | (k_extra "w1") | (k_end; (k_extra "lAn"); (k_extra "lEx"); (k_extra "vn")) | (k_extra "rq") | ((k_extra "lQ"); (k_extra "wo")))))
            (try dsimp only)
            rename News _ _ _ _ => N
            rename Fr _ _ _ _ => F
            (repeat (k_unfold; (try dsimp only)))
            (try dsimp only at F N ⊢)
            rw [if_neg (by simp [ht])] at hres
            obtain rfl := Option.some.inj hres
            exact ⟨by first | rfl | trivial, _, _, _, te, _, tok, _, k + 1, _, _, _, _, _, rfl, Fr.look F (fun y => rtM_nc y), news_tail N, hlt', rfl, rfl, rfl, fun e => (Bool.noConfusion e : False).elim, fun _ => ⟨_, by rw [(by decide +kernel : Str.ofString " " = one 32)]⟩, Nat.le_succ_of_le htok, et⟩
        have hn1 := not_in (he := by decide +kernel) (hay := Str.ofString " \t\r\n") (c := c) [32, 9, 13, 10] (by simp [hc1, hoc.1, hoc.2.1, hoc.2.2.1])
        have hn2 := not_in (he := by decide +kernel) (hay := Str.ofString "") (c := c) [] (by simp)
        have hn3 := not_in (he := by decide +kernel) (hay := Str.ofString "\\") (c := c) [92] (by simp [hoc.2.2.2])
        ((try k_extra "rf"); (repeat' (first | (k_extra "w1") | (k_end; (k_extra "lAn"); (k_extra "lEx"); (k_extra "vn")) | (k_extra "rq") | ((k_extra "lQ"); (k_extra "wo")))))
        by_cases hcq : c = 39 ∨ c = 34
        · have hy4 : (!(Builtin.Str.occurrences (Str.ofString "'\"") (one c) 0 (Str.ofString "'\"").length 1).isEmpty) = true := by rcases hcq with rfl | rfl <;> decide +kernel
          ((try k_extra "rf"); (repeat' (first | (k_extra "w1") | (k_end; (k_extra "lAn"); (k_extra "lEx"); (k_extra "vn")) | (k_extra "rq") | ((k_extra "lQ"); (k_extra "wo")))))
          rename News _ _ _ _ => N
          rename Fr _ _ _ _ => F
          (repeat (k_unfold; (try dsimp only)))
          (try dsimp only at F N ⊢)
          exact ⟨x.length - (k + 1) + 1, lt_turn hlt', _, _, some _, te, c, tok, qd, k + 1, _, _, _, _, _, _, rfl, Fr.look F (fun y => rtM_nc y), news_tail N, hlt', by rw [← hres, tok97q hcq], by rcases hcq with h | h <;> simp [h], by first | exact Nat.le_succ_of_le htok | exact Nat.succ_le_succ (Nat.zero_le _) | (rw [List.length_append]; exact Nat.succ_le_succ htok), et, rfl⟩
        · have hn4 := not_in (he := by decide +kernel) (hay := Str.ofString "'\"") (c := c) [39, 34] (by simpa only [List.mem_cons, List.not_mem_nil, or_false] using hcq)
          ((try k_extra "rf"); (repeat' (first | (k_extra "w1") | (k_end; (k_extra "lAn"); (k_extra "lEx"); (k_extra "vn")) | (k_extra "rq") | ((k_extra "lQ"); (k_extra "wo")))))
          by_cases hw : (!(Builtin.Str.occurrences lexW (one c) 0 lexW.length 1).isEmpty) = true
          · ((try k_extra "rf"); (repeat' (first | (k_extra "w1") | (k_end; (k_extra "lAn"); (k_extra "lEx"); (k_extra "vn")) | (k_extra "rq") | ((k_extra "lQ"); (k_extra "wo")))))
            rename News _ _ _ _ => N
            rename Fr _ _ _ _ => F
            (repeat (k_unfold; (try dsimp only)))
            (try dsimp only at F N ⊢)
            exact ⟨x.length - (k + 1) + 1, lt_turn hlt', _, _, some _, te, 97, tok ++ [c], qd, k + 1, _, _, _, _, _, _, rfl, Fr.look F (fun y => rtM_nc y), news_tail N, hlt', by rw [← hres, tok97o hc1 hcq], by decide, by first | exact Nat.le_succ_of_le htok | exact Nat.succ_le_succ (Nat.zero_le _) | (rw [List.length_append]; exact Nat.succ_le_succ htok), (by rw [et]; exact tx_push _ _), rfl⟩
          · ((try k_extra "rf"); (repeat' (first | (k_extra "w1") | (k_end; (k_extra "lAn"); (k_extra "lEx"); (k_extra "vn")) | (k_extra "rq") | ((k_extra "lQ"); (k_extra "wo")))))
            (rename News _ _ _ _ => N0; have N := news_tail N0; clear N0; rename Fr _ _ _ _ => F; k_dflt (refine' get_prop ?k1 ?k2 ?k3 ?k4 ?k5 ?k6 ?k7 ?k8 ?k9 ?_; (case k1 => k_asm); (case k2 => k_asm); (case k3 => k_inst); (case k4 => k_is); (case k5 => k_is); (case k6 => k_is); (case k7 => k_is); (case k8 => k_is); (case k9 => k_is)); refine ct_pc X T (fun b o e => F.keep b o (sg b o e)) (by first | exact roomd hroom rfl | exact room2 (j := 1) hroom rfl | (simp only [depth_deeper]; omega)) (N _ (.head _)).1 (N _ (.tail _ (.head _))).1 lq nq nd ?_; intro h2 tk2 st2; have F2 := fr_stay F st2; have N2 := news_stay N st2; clear F N; dsimp only; refine handed_on rfl ?_; clear st2; (try dsimp only))
            ((try k_extra "rf"); (repeat' (first | (k_extra "w1") | (k_end; (k_extra "lAn"); (k_extra "lEx"); (k_extra "vn")) | (k_extra "rq") | ((k_extra "lQ"); (k_extra "wo")))))
            rename News _ _ _ _ => N
            rename Fr _ _ _ _ => F
            (repeat (k_unfold; (try dsimp only)))
            (try dsimp only at F N ⊢)
            exact ⟨x.length - (k + 1) + 1, lt_turn hlt', _, _, some _, te, 97, tok ++ [c], qd, k + 1, _, _, _, _, _, _, rfl, Fr.look F (fun y => rtM_nc y), N, hlt', by rw [← hres, tok97o hc1 hcq], by decide, by first | exact Nat.le_succ_of_le htok | exact Nat.succ_le_succ (Nat.zero_le _) | (rw [List.length_append]; exact Nat.succ_le_succ htok), (by rw [et]; exact tx_push _ _), rfl⟩
      · have hn3 := not_in (he := by decide +kernel) (hay := Str.ofString "\\") (c := c) [92] (by simp [hoc.2.2.2])
        have s1 : ¬ ((one sc == Str.ofString " ") = true) := one_ne (he := by decide +kernel) (d := 32) (by rcases hs with h | h <;> rw [h] <;> decide)
        have s4 : (!(Builtin.Str.occurrences (Str.ofString "'\"") (one sc) 0 (Str.ofString "'\"").length 1).isEmpty) = true := by rcases hs with rfl | rfl <;> decide +kernel
        have s5 : ((one sc).length : Int) < 9223372036854775808 := (by decide : ((1 : Nat) : Int) < 9223372036854775808)
        have s6 : (one sc).length = 1 := rfl
        ((try k_extra "rf"); (repeat' (first | (k_extra "w1") | (k_end; (k_extra "lAn"); (k_extra "lEx"); (k_extra "vn")) | (k_extra "rq") | ((k_extra "lQ"); (k_extra "wo")))))
        by_cases hc1 : c = sc
        · subst hc1
          have s7 : (one c == one c) = true := beq_self_eq_true _
          ((try k_extra "rf"); (repeat' (first | (k_extra "w1") | (k_end; (k_extra "lAn"); (k_extra "lEx"); (k_extra "vn")) | (k_extra "rq") | ((k_extra "lQ"); (k_extra "wo")))))
          rename News _ _ _ _ => N
          rename Fr _ _ _ _ => F
          (repeat (k_unfold; (try dsimp only)))
          (try dsimp only at F N ⊢)
          exact ⟨x.length - (k + 1) + 1, lt_turn hlt', _, _, some _, te, 97, tok, true, k + 1, _, _, _, _, _, _, rfl, Fr.look F (fun y => (congrArg (fun z => if y = Str.ofString "quoted" then _ else z) (rtM_nc y)).trans (rtM_qd y)), N, hlt', by rw [← hres, tokqe hs], by decide, by first | exact Nat.le_succ_of_le htok | exact Nat.succ_le_succ (Nat.zero_le _) | (rw [List.length_append]; exact Nat.succ_le_succ htok), et, rfl⟩
        · have hn5 := one_ne1 hc1
          ((try k_extra "rf"); (repeat' (first | (k_extra "w1") | (k_end; (k_extra "lAn"); (k_extra "lEx"); (k_extra "vn")) | (k_extra "rq") | ((k_extra "lQ"); (k_extra "wo")))))
          rename News _ _ _ _ => N
          rename Fr _ _ _ _ => F
          (repeat (k_unfold; (try dsimp only)))
          (try dsimp only at F N ⊢)
          exact ⟨x.length - (k + 1) + 1, lt_turn hlt', _, _, some _, te, sc, tok ++ [c], true, k + 1, _, _, _, _, _, _, rfl, Fr.look F (fun y => (congrArg (fun z => if y = Str.ofString "quoted" then _ else z) (rtM_nc y)).trans (rtM_qd y)), N, hlt', by rw [← hres, tokqo hs hc1], .inr (.inr hs), by first | exact Nat.le_succ_of_le htok | exact Nat.succ_le_succ (Nat.zero_le _) | (rw [List.length_append]; exact Nat.succ_le_succ htok), (by rw [et]; exact tx_push _ _), rfl⟩
  · clear F0 N hres hk hq hdx hqs hds
    rintro f s' hp3_2
    refine hideL ?_; intro gg3
    obtain ⟨rfl, h, tk, nc, te, stV, tok, qd, k, v3, c1, c3, c4, tv, rfl, F, N, hk, e1, e2, e3, e4, e5, e6, et⟩ := hp3_2
    k_unfold
    have z2 : tv.length ≤ 100000 := Nat.le_trans (by rw [et]; show tok.toArray.size ≤ k; rw [List.size_toArray]; exact e6) (Nat.le_trans hk (Nat.le_of_lt hx))
    (try dsimp only)
    cases qd with
    | true =>
      ((try k_extra "rf"); (repeat' (first | (k_extra "w1") | (k_end; (k_extra "lAn"); (k_extra "lEx"); (k_extra "vn")) | (k_extra "rq") | ((k_extra "lQ"); (k_extra "wo")))))
      have hv : ∀ t', (if res.2.1 = false ∧ res.1 = [] then Value.none else .str (tx res.1) t') = .str tv t' := fun t' => by rw [if_neg (fun e => by rw [← e3] at e; exact Bool.noConfusion e.1), ← e2, et]
      (try dsimp only)
      rename News _ _ _ _ => N
      rename Fr _ _ _ _ => F
      exact val_eq (hv _) (ret _ _ stV k _ _ _ _ _ (kept _ F.keep) (N _ (.head _)).1 ⟨_, (N _ (.tail _ (.head _))).1⟩ (N _ (.tail _ (.tail _ (.head _)))).1 (N _ (.tail _ (.tail _ (.tail _ (.head _))))).1 hk e1 e4 e5)
    | false =>
      by_cases ht : tok = []
      · subst ht
        have ht0 : (tv == Str.ofString "") = true := by rw [et]; decide +kernel
        ((try k_extra "rf"); (repeat' (first | (k_extra "w1") | (k_end; (k_extra "lAn"); (k_extra "lEx"); (k_extra "vn")) | (k_extra "rq") | ((k_extra "lQ"); (k_extra "wo")))))
        (try dsimp only)
        rename News _ _ _ _ => N
        rename Fr _ _ _ _ => F
        exact val_eq (if_pos ⟨e3.symm, e2.symm⟩) (ret _ _ stV k _ _ _ _ 0 (kept _ F.keep) (N _ (.head _)).1 ⟨_, (N _ (.tail _ (.head _))).1⟩ (N _ (.tail _ (.tail _ (.head _)))).1 (N _ (.tail _ (.tail _ (.tail _ (.head _))))).1 hk e1 e4 e5)
      · have ht2 : ¬ ((tv == Str.ofString "") = true) := by
          rw [et, (by decide +kernel : Str.ofString "" = tx [])]
          intro hb
          have := eq_of_beq hb
          injection this with this
          injection this with this
          exact ht this
        ((try k_extra "rf"); (repeat' (first | (k_extra "w1") | (k_end; (k_extra "lAn"); (k_extra "lEx"); (k_extra "vn")) | (k_extra "rq") | ((k_extra "lQ"); (k_extra "wo")))))
        have hv : ∀ t', (if res.2.1 = false ∧ res.1 = [] then Value.none else .str (tx res.1) t') = .str tv t' := fun t' => by rw [if_neg (fun e => ht (e2.trans e.2)), ← e2, et]
        (try dsimp only)
        rename News _ _ _ _ => N
        rename Fr _ _ _ _ => F
        exact val_eq (hv _) (ret _ _ stV k _ _ _ _ _ (kept _ F.keep) (N _ (.head _)).1 ⟨_, (N _ (.tail _ (.head _))).1⟩ (N _ (.tail _ (.tail _ (.head _)))).1 (N _ (.tail _ (.tail _ (.tail _ (.head _))))).1 hk e1 e4 e5)
end TC6
section TC7
open PySem PySem.W PyProof.Rows PySem.Calls
set_option maxHeartbeats 16000000

theorem ct_rtok_end {w : World} {A : Around} {Q : Value → Shared → Prop} {s : Shared} {p : Program} {loose : List Str} {mean : ExcName → Option Value} {mg mb : Str → Option Value} {h₀ : Heap}
    (X : (Mine.top.heap_1_39 w.params).In h₀) (T : Top p loose mean mg mb h₀) (st₀ : Stays h₀ s.heap) (hroom : A.depth + 20 < recursionLimit)
    (x : Str) (t : Tok) (hx : x.length < 100000) (q dx qs ds d1 d2 : Addr) {u1 u2 u3 v1 v3 c1 c3 c4 : Tok} {ln : Int}
    (hq : s.heap.get? q = some (instObj 911 dx)) (hdx : Lex w s.heap dx qs d1 d2 (.str (Str.ofString "") c1) (.bool true) .none (.int ln c3) (.str (Str.ofString "") c4))
    (hqs : s.heap.get? qs = some (instObj 727 ds)) (hds : s.heap.get? ds = some (dictOf (sioD w u1 u2 u3 v1 (.str x t) (.int (x.length : Nat) v3)) 3))
    (lq : dx < q) (ls : q < ds) (lz : ds < qs) (nq : h₀.get? q = none) (nd : h₀.get? dx = none) (nqs : h₀.get? qs = none) (nds : h₀.get? ds = none)
    (ret : ∀ h' tk v3' c1' c3' c4', Kept [q, dx, qs, ds] s.heap h' → h'.get? q = some (instObj 911 dx) → Lex w h' dx qs d1 d2 (.str (Str.ofString "") c1') (.bool true) .none (.int ln c3') (.str (Str.ofString "") c4') →
      h'.get? qs = some (instObj 727 ds) → h'.get? ds = some (dictOf (sioD w u1 u2 u3 v1 (.str x t) (.int (x.length : Nat) v3')) 3) → Q .none { s with heap := h', toks := tk }) :
    wpAny (model PySem.Challenge.rw_aa0007_01.row.prog w) A (call (.ref 879) [.ref q]) Q noE s := by
  revert X; k_fill; intro X
  obtain ⟨kk, hdx⟩ := hdx
  k_dflt (refine' enterG (h₀ := h₀) (binds := [(Str.ofString "self", Value.ref q)]) [(q, instObj 911 dx), (dx, dictOf (lexD w kk qs d1 d2 (.str (Str.ofString "") c1) (.bool true) .none (.int ln c3) (.str (Str.ofString "") c4)) 19), (qs, instObj 727 ds), (ds, dictOf (sioD w u1 u2 u3 v1 (.str x t) (.int (x.length : Nat) v3)) 3)] ?k1 ?k2 ?k3 ?k4 ?k6 ?k7 ?k8 ?k9 ?kB ?_ ?c5 ?c2 ?c3 ?c4; (case k4 => exact List.forall_mem_cons.mpr ⟨⟨hq, nq⟩, List.forall_mem_cons.mpr ⟨⟨hdx, nd⟩, List.forall_mem_cons.mpr ⟨⟨hqs, nqs⟩, List.forall_mem_cons.mpr ⟨⟨hds, nds⟩, List.forall_mem_nil _⟩⟩⟩⟩); ((case k1 => assumption); (case k2 => assumption); (case k3 => assumption); (case k6 => k_is); (case k7 => k_is); (case k8 => (first | exact (ch1 21 0 1 0 hroom (Eq.refl true)) | omega)); (case k9 => first | exact BindsTo.of_eq rfl | exact binds_K (Frag.In.keeps (by assumption) (by assumption)) rfl (by k_is) rfl rfl rfl); (case c5 => decide); (case kB => exact locs rfl); (case c2 => exact rfl); (case c3 => exact rfl); (case c4 => exact rfl)))
  have lq' : @LT.lt Nat _ dx q := lq
  have ls' : @LT.lt Nat _ q ds := ls
  have lz' : @LT.lt Nat _ ds qs := lz
  have ne1 : @Ne Nat q dx := Nat.ne_of_gt lq'
  have ne2 : @Ne Nat qs dx := Nat.ne_of_gt (Nat.lt_trans lq' (Nat.lt_trans ls' lz'))
  have ne3 : @Ne Nat ds dx := Nat.ne_of_gt (Nat.lt_trans lq' ls')
  intro g h₁ Xg Tg sg kept hsz F N
  (try k_extra "en")
  ((try k_extra "rf"); (repeat' (first | (k_extra "v0") | (k_extra "wn") | ((k_extra "ge"); (k_extra "ve")) | ((k_extra "gx"); (k_extra "lW"); (k_extra "vx")) | (k_extra "rq") | ((k_extra "lW"); (k_extra "wo")))))
  refine while_ (fun _ s' => s' = _) ?_ 0 rfl
  rintro nI s' rfl
  ((try k_extra "rf"); (repeat' (first | (k_extra "wb") | ((k_extra "lGa"); (k_extra "wo")))))
  (rename News _ _ _ _ => N; rename Fr _ _ _ _ => F; k_dflt (refine' get_prop ?k1 ?k2 ?k3 ?k4 ?k5 ?k6 ?k7 ?k8 ?k9 ?_; (case k1 => k_asm); (case k2 => k_asm); (case k3 => k_inst); (case k4 => k_is); (case k5 => k_is); (case k6 => k_is); (case k7 => k_is); (case k8 => k_is); (case k9 => k_is)); refine ct_pc X T (fun b o e => F.keep b o (sg b o e)) (by first | exact roomd hroom rfl | exact room2 (j := 1) hroom rfl | (simp only [depth_deeper]; omega)) (N _ (.head _)).1 (N _ (.tail _ (.head _))).1 lq nq nd ?_; intro h2 tk2 st2; have F2 := fr_stay F st2; have N2 := news_stay N st2; clear F N; dsimp only; refine handed_on rfl ?_; clear st2; (try dsimp only))
  ((try k_extra "rf"); (repeat' (first | (k_extra "wb") | ((k_extra "lC"); (k_extra "wo")))))
  rename News _ _ _ _ => N
  rename Fr _ _ _ _ => F
  have wqs : ∀ a ∈ [qs, ds], a ≠ s.heap.objs.size ∧ g.get? a = none := List.forall_mem_cons.mpr ⟨(N _ (.tail _ (.tail _ (.head _)))).2, List.forall_mem_cons.mpr ⟨(N _ (.tail _ (.tail _ (.tail _ (.head _))))).2, List.forall_mem_nil _⟩⟩
  have nin : q ∉ [qs, ds] ∧ dx ∉ [qs, ds] := by
    constructor <;> simp only [List.mem_cons, List.not_mem_nil, or_false, not_or] <;> constructor <;> (refine Nat.ne_of_lt ?_; (first | exact (ch2 1 0 1 0 1 0 ls lz (Eq.refl true)) | exact (ch1 1 0 1 0 ls (Eq.refl true)) | exact (ch3 1 0 1 0 1 0 1 0 lq ls lz (Eq.refl true)) | exact (ch2 1 0 1 0 1 0 lq ls (Eq.refl true)) | omega))
  refine ct_read X T (fun b o e => F.keep b o (sg b o e)) (by first | exact roomd hroom rfl | exact room2 (j := 1) hroom rfl | (simp only [depth_deeper]; omega)) x t _ hx qs ds (Nat.le_refl _) (N _ (.tail _ (.tail _ (.head _)))).1 (N _ (.tail _ (.tail _ (.tail _ (.head _))))).1 lz nqs nds ?_ (fun c hc => absurd (List.getElem?_eq_some_iff.mp hc).1 (by simp [Str.length]))
  intro hke h2 tk2 t'2 v3' kp e1 e2
  have F2 := fr_kept F kp wqs
  have N2 := news_get N (.head _) (kp _ _ nin.1 (N _ (.head _)).1) (news_get N (.tail _ (.head _)) (kp _ _ nin.2 (N _ (.tail _ (.head _))).1) (news_get N (.tail _ (.tail _ (.head _))) e1 (news_get N (.tail _ (.tail _ (.tail _ (.head _)))) e2 News.nil)))
  dsimp only at N2
  clear F N kp e1 e2
  ((try k_extra "rf"); (repeat' (first | (k_extra "wb") | (k_extra "wo"))))
  (try dsimp only)
  rename News _ _ _ _ => N
  rename Fr _ _ _ _ => F
  exact ret _ _ _ _ _ _ (kept _ F.keep) (N _ (.head _)).1 ⟨_, (N _ (.tail _ (.head _))).1⟩ (N _ (.tail _ (.tail _ (.head _)))).1 (N _ (.tail _ (.tail _ (.tail _ (.head _))))).1
end TC7
section TC8
open PySem PySem.W PyProof.Rows PySem.Calls
set_option maxHeartbeats 16000000

structure LexS (w : World) (h : Heap) (q dx qs ds d1 d2 : Addr) (x : Str) (t : Tok) (k : Nat) (fin : Bool) : Prop where
  q : h.get? q = some (instObj 911 dx)
  dx : ∃ c1 c2 c3 c4 ln, Lex w h dx qs d1 d2 (.str (Str.ofString "") c1) (.bool true) (if fin then .none else .str (one 32) c2) (.int ln c3) (.str (Str.ofString "") c4)
  qs : h.get? qs = some (instObj 727 ds)
  ds : ∃ u1 u2 u3 v1 v3, h.get? ds = some (dictOf (sioD w u1 u2 u3 v1 (.str x t) (.int (k : Nat) v3)) 3)
  d1 : h.get? d1 = some (dqO #[] 0)
  d2 : h.get? d2 = some (dqO #[] 0)

structure LexA (h₀ : Heap) (q dx qs ds d1 d2 : Addr) : Prop where
  lq : dx < q
  ls : q < ds
  lz : ds < qs
  l1 : qs < d1
  l2 : d1 < d2
  nq : h₀.get? q = none
  nd : h₀.get? dx = none
  nqs : h₀.get? qs = none
  nds : h₀.get? ds = none
  n1 : h₀.get? d1 = none
  n2 : h₀.get? d2 = none

theorem LexS.mono {w : World} {h h' : Heap} {q dx qs ds d1 d2 : Addr} {x : Str} {t : Tok} {k : Nat} {fin : Bool} (L : LexS w h q dx qs ds d1 d2 x t k fin) (e : ∀ b ∈ [q, dx, qs, ds, d1, d2], ∀ o, h.get? b = some o → h'.get? b = some o) : LexS w h' q dx qs ds d1 d2 x t k fin := by
  refine ⟨e _ (.head _) _ L.q, ?_, e _ (.tail _ (.tail _ (.head _))) _ L.qs, ?_, e _ (.tail _ (.tail _ (.tail _ (.tail _ (.head _))))) _ L.d1, e _ (.tail _ (.tail _ (.tail _ (.tail _ (.tail _ (.head _)))))) _ L.d2⟩
  · exact L.dx.imp fun _ => Exists.imp fun _ => Exists.imp fun _ => Exists.imp fun _ => Exists.imp fun _ => Exists.imp fun _ z => e _ (.tail _ (.head _)) _ z
  · exact L.ds.imp fun _ => Exists.imp fun _ => Exists.imp fun _ => Exists.imp fun _ => Exists.imp fun _ z => e _ (.tail _ (.tail _ (.tail _ (.head _)))) _ z
theorem LexS.inst {w : World} {h : Heap} {q dx qs ds d1 d2 : Addr} {x : Str} {t : Tok} {k : Nat} {fin : Bool} (L : LexS w h q dx qs ds d1 d2 x t k fin) : ∃ od, InstAt h q (instObj 911 dx) 911 (some od) := by
  refine hideL ?_; intro gg1
  obtain ⟨_, _, _, _, _, _, z⟩ := L.dx
  k_unfold
  exact ⟨_, L.q, rfl, rfl, z⟩
theorem LexA.new {h : Heap} {q dx qs ds d1 d2 : Addr} (a : LexA h q dx qs ds d1 d2) : ∀ b ∈ [q, dx, qs, ds, d1, d2], h.get? b = none :=
  fmc a.nq (fmc a.nd (fmc a.nqs (fmc a.nds (fmc a.n1 (fmc a.n2 (List.forall_mem_nil _))))))
theorem ct_gtok {w : World} {A : Around} {Q : Value → Shared → Prop} {s : Shared} {p : Program} {loose : List Str} {mean : ExcName → Option Value} {mg mb : Str → Option Value} {h₀ : Heap}
    (X : (Mine.top.heap_1_39 w.params).In h₀) (T : Top p loose mean mg mb h₀) (st₀ : Stays h₀ s.heap) (hroom : A.depth + 25 < recursionLimit)
    (x : Str) (t : Tok) (hx : x.length < 100000) (hok : ∀ c ∈ x.cps.toList, okc c) {q dx qs ds d1 d2 : Addr} (a : LexA h₀ q dx qs ds d1 d2) {k : Nat} (hk : k ≤ x.length)
    {tok rest : List Nat} {qd fin' : Bool} (hres : tokF (x.cps.toList.drop k) 32 [] false = some (tok, qd, fin', rest)) (hne : ¬ (qd = false ∧ tok = []))
    (L : LexS w s.heap q dx qs ds d1 d2 x t k false)
    (ret : ∀ h' tk t' k', Kept [q, dx, qs, ds, d1, d2] s.heap h' → LexS w h' q dx qs ds d1 d2 x t k' fin' → k' ≤ x.length → x.cps.toList.drop k' = rest → Q (.str (tx tok) t') { s with heap := h', toks := tk }) :
    wpAny (model PySem.Challenge.rw_aa0007_01.row.prog w) A (call (.ref 872) [.ref q]) Q noE s := by
  revert X; k_fill; intro X
  refine hideL ?_; intro gg2
  obtain ⟨lq, ls, lz, l1, l2, nq, nd, nqs, nds, n1, n2⟩ := a
  obtain ⟨hq, ⟨c1, c2, c3, c4, ln, hL⟩, hqs, ⟨u1, u2, u3, v1, v3, hds⟩, hd1, hd2⟩ := L
  k_unfold
  simp only [Bool.false_eq_true, if_false] at hL
  obtain ⟨kk, hdx⟩ := hL
  k_dflt (refine' enterG (h₀ := h₀) (binds := [(Str.ofString "self", Value.ref q)]) [(q, instObj 911 dx), (dx, dictOf (lexD w kk qs d1 d2 (.str (Str.ofString "") c1) (.bool true) (.str (one 32) c2) (.int ln c3) (.str (Str.ofString "") c4)) 19), (qs, instObj 727 ds), (ds, dictOf (sioD w u1 u2 u3 v1 (.str x t) (.int (k : Nat) v3)) 3), (d1, dqO #[] 0), (d2, dqO #[] 0)] ?k1 ?k2 ?k3 ?k4 ?k6 ?k7 ?k8 ?k9 ?kB ?_ ?c5 ?c2 ?c3 ?c4; (case k4 => exact List.forall_mem_cons.mpr ⟨⟨hq, nq⟩, List.forall_mem_cons.mpr ⟨⟨hdx, nd⟩, List.forall_mem_cons.mpr ⟨⟨hqs, nqs⟩, List.forall_mem_cons.mpr ⟨⟨hds, nds⟩, List.forall_mem_cons.mpr ⟨⟨hd1, n1⟩, List.forall_mem_cons.mpr ⟨⟨hd2, n2⟩, List.forall_mem_nil _⟩⟩⟩⟩⟩⟩); ((case k1 => assumption); (case k2 => assumption); (case k3 => assumption); (case k6 => k_is); (case k7 => k_is); (case k8 => (first | exact (ch1 26 0 1 0 hroom (Eq.refl true)) | exact (ch1 29 0 1 0 hroom (Eq.refl true)) | omega)); (case k9 => first | exact BindsTo.of_eq rfl | exact binds_K (Frag.In.keeps (by assumption) (by assumption)) rfl (by k_is) rfl rfl rfl); (case c5 => decide); (case kB => exact locs rfl); (case c2 => exact rfl); (case c3 => exact rfl); (case c4 => exact rfl)))
  have lq' : @LT.lt Nat _ dx q := lq
  have ls' : @LT.lt Nat _ q ds := ls
  have lz' : @LT.lt Nat _ ds qs := lz
  have l1' : @LT.lt Nat _ qs d1 := l1
  have l2' : @LT.lt Nat _ d1 d2 := l2
  intro g h₁ Xg Tg sg kept hsz F N
  (try k_extra "en")
  ((try k_extra "rf"); (repeat' (first | (k_extra "wb") | ((k_extra "lTr"); (k_extra "wo")))))
  rename News _ _ _ _ => N
  rename Fr _ _ _ _ => F
  refine truthy_dq (N _ (.tail _ (.tail _ (.tail _ (.tail _ (.head _)))))).1 ?_
  ((try k_extra "rf"); (repeat' (first | (k_extra "wb") | ((k_extra "lC"); (k_extra "wo")))))
  rename News _ _ _ _ => N
  rename Fr _ _ _ _ => F
  have wqs : ∀ a ∈ [q, dx, qs, ds], a ≠ s.heap.objs.size ∧ g.get? a = none := List.forall_mem_cons.mpr ⟨(N _ (.head _)).2, List.forall_mem_cons.mpr ⟨(N _ (.tail _ (.head _))).2, List.forall_mem_cons.mpr ⟨(N _ (.tail _ (.tail _ (.head _)))).2, List.forall_mem_cons.mpr ⟨(N _ (.tail _ (.tail _ (.tail _ (.head _))))).2, List.forall_mem_nil _⟩⟩⟩⟩
  have nin : d1 ∉ [q, dx, qs, ds] ∧ d2 ∉ [q, dx, qs, ds] := by
    constructor <;> simp only [List.mem_cons, List.not_mem_nil, or_false, not_or] <;> refine ⟨?_, ?_, ?_, ?_⟩ <;> (refine Nat.ne_of_gt ?_; (first | exact (ch3 1 0 1 0 1 0 1 0 ls lz l1 (Eq.refl true)) | exact (ch4 1 0 1 0 1 0 1 0 1 0 lq ls lz l1 (Eq.refl true)) | exact (ch1 1 0 1 0 l1 (Eq.refl true)) | exact (ch2 1 0 1 0 1 0 lz l1 (Eq.refl true)) | exact (ch4 1 0 1 0 1 0 1 0 1 0 ls lz l1 l2 (Eq.refl true)) | exact (lin5 6 [_, _, _, _, _, _] 0 (.a (.v 0) (.k 1)) (.v 1) 1 (.a (.v 0) (.k 1)) (.v 2) 1 (.a (.v 2) (.k 1)) (.v 3) 1 (.a (.v 3) (.k 1)) (.v 4) 1 (.a (.v 4) (.k 1)) (.v 5) 1 (.a (.v 5) (.k 1)) (.v 1) lq' ls' lz' l1' l2' rfl (Eq.refl true)) | exact (ch2 1 0 1 0 1 0 l1 l2 (Eq.refl true)) | exact (ch3 1 0 1 0 1 0 1 0 lz l1 l2 (Eq.refl true)) | omega))
  refine ct_rtok X T (fun b o e => F.keep b o (sg b o e)) (by first | exact roomd hroom rfl | exact room2 (j := 1) hroom rfl | (simp only [depth_deeper]; omega)) x t hx hok q dx qs ds d1 d2 hk hres (N _ (.head _)).1 ⟨_, (N _ (.tail _ (.head _))).1⟩ (N _ (.tail _ (.tail _ (.head _)))).1 (N _ (.tail _ (.tail _ (.tail _ (.head _))))).1 lq ls lz nq nd nqs nds ?_
  intro h2 tk2 stV k' v3' c1' c3' c4' t' kp e1 e2 e3 e4 e5 e6 e7 e8
  obtain ⟨mm, e2⟩ := e2
  have F2 := fr_kept F kp wqs
  have N2 := news_get N (.head _) e1 (news_get N (.tail _ (.head _)) e2 (news_get N (.tail _ (.tail _ (.head _))) e3 (news_get N (.tail _ (.tail _ (.tail _ (.head _)))) e4 (news_get N (.tail _ (.tail _ (.tail _ (.tail _ (.head _))))) (kp _ _ nin.1 (N _ (.tail _ (.tail _ (.tail _ (.tail _ (.head _)))))).1) (news_get N (.tail _ (.tail _ (.tail _ (.tail _ (.tail _ (.head _)))))) (kp _ _ nin.2 (N _ (.tail _ (.tail _ (.tail _ (.tail _ (.tail _ (.head _))))))).1) News.nil)))))
  dsimp only at N2
  clear F N kp e1 e2 e3 e4
  rw [if_neg hne]
  ((try k_extra "rf"); (repeat' (first | (k_extra "v0") | (k_extra "wn") | ((k_extra "ge"); (k_extra "ve")) | ((k_extra "gx"); (k_extra "lW"); (k_extra "vx")) | (k_extra "rq") | ((k_extra "lW"); (k_extra "wo")))))
  refine while_ (fun _ s' => s' = _) ?_ 0 rfl
  rintro nI s' rfl
  ((try k_extra "rf"); (repeat' (first | (k_extra "wb") | (k_extra "wo"))))
  (try dsimp only)
  rename News _ _ _ _ => N
  rename Fr _ _ _ _ => F
  cases fin' with
  | true =>
    obtain rfl := e7 rfl
    exact ret _ _ _ k' (kept _ F.keep) ⟨(N _ (.head _)).1, ⟨_, 0, _, _, _, ⟨_, (N _ (.tail _ (.head _))).1⟩⟩, (N _ (.tail _ (.tail _ (.head _)))).1, ⟨_, _, _, _, _, (N _ (.tail _ (.tail _ (.tail _ (.head _))))).1⟩, (N _ (.tail _ (.tail _ (.tail _ (.tail _ (.head _)))))).1, (N _ (.tail _ (.tail _ (.tail _ (.tail _ (.tail _ (.head _))))))).1⟩ e5 e6
  | false =>
    obtain ⟨u, rfl⟩ := e8 rfl
    exact ret _ _ _ k' (kept _ F.keep) ⟨(N _ (.head _)).1, ⟨_, u, _, _, _, ⟨_, (N _ (.tail _ (.head _))).1⟩⟩, (N _ (.tail _ (.tail _ (.head _)))).1, ⟨_, _, _, _, _, (N _ (.tail _ (.tail _ (.tail _ (.head _))))).1⟩, (N _ (.tail _ (.tail _ (.tail _ (.tail _ (.head _)))))).1, (N _ (.tail _ (.tail _ (.tail _ (.tail _ (.tail _ (.head _))))))).1⟩ e5 e6

theorem ct_gtok_end {w : World} {A : Around} {Q : Value → Shared → Prop} {s : Shared} {p : Program} {loose : List Str} {mean : ExcName → Option Value} {mg mb : Str → Option Value} {h₀ : Heap}
    (X : (Mine.top.heap_1_39 w.params).In h₀) (T : Top p loose mean mg mb h₀) (st₀ : Stays h₀ s.heap) (hroom : A.depth + 25 < recursionLimit)
    (x : Str) (t : Tok) (hx : x.length < 100000) {q dx qs ds d1 d2 : Addr} (a : LexA h₀ q dx qs ds d1 d2)
    (L : LexS w s.heap q dx qs ds d1 d2 x t x.length true)
    (ret : ∀ h' tk, Kept [q, dx, qs, ds, d1, d2] s.heap h' → LexS w h' q dx qs ds d1 d2 x t x.length true → Q .none { s with heap := h', toks := tk }) :
    wpAny (model PySem.Challenge.rw_aa0007_01.row.prog w) A (call (.ref 872) [.ref q]) Q noE s := by
  revert X; k_fill; intro X
  refine hideL ?_; intro gg3
  obtain ⟨lq, ls, lz, l1, l2, nq, nd, nqs, nds, n1, n2⟩ := a
  obtain ⟨hq, ⟨c1, c2, c3, c4, ln, hL⟩, hqs, ⟨u1, u2, u3, v1, v3, hds⟩, hd1, hd2⟩ := L
  k_unfold
  simp only [if_true] at hL
  obtain ⟨kk, hdx⟩ := hL
  k_dflt (refine' enterG (h₀ := h₀) (binds := [(Str.ofString "self", Value.ref q)]) [(q, instObj 911 dx), (dx, dictOf (lexD w kk qs d1 d2 (.str (Str.ofString "") c1) (.bool true) .none (.int ln c3) (.str (Str.ofString "") c4)) 19), (qs, instObj 727 ds), (ds, dictOf (sioD w u1 u2 u3 v1 (.str x t) (.int (x.length : Nat) v3)) 3), (d1, dqO #[] 0), (d2, dqO #[] 0)] ?k1 ?k2 ?k3 ?k4 ?k6 ?k7 ?k8 ?k9 ?kB ?_ ?c5 ?c2 ?c3 ?c4; (case k4 => exact List.forall_mem_cons.mpr ⟨⟨hq, nq⟩, List.forall_mem_cons.mpr ⟨⟨hdx, nd⟩, List.forall_mem_cons.mpr ⟨⟨hqs, nqs⟩, List.forall_mem_cons.mpr ⟨⟨hds, nds⟩, List.forall_mem_cons.mpr ⟨⟨hd1, n1⟩, List.forall_mem_cons.mpr ⟨⟨hd2, n2⟩, List.forall_mem_nil _⟩⟩⟩⟩⟩⟩); ((case k1 => assumption); (case k2 => assumption); (case k3 => assumption); (case k6 => k_is); (case k7 => k_is); (case k8 => (first | exact (ch1 26 0 1 0 hroom (Eq.refl true)) | omega)); (case k9 => first | exact BindsTo.of_eq rfl | exact binds_K (Frag.In.keeps (by assumption) (by assumption)) rfl (by k_is) rfl rfl rfl); (case c5 => decide); (case kB => exact locs rfl); (case c2 => exact rfl); (case c3 => exact rfl); (case c4 => exact rfl)))
  have lq' : @LT.lt Nat _ dx q := lq
  have ls' : @LT.lt Nat _ q ds := ls
  have lz' : @LT.lt Nat _ ds qs := lz
  have l1' : @LT.lt Nat _ qs d1 := l1
  have l2' : @LT.lt Nat _ d1 d2 := l2
  intro g h₁ Xg Tg sg kept hsz F N
  (try k_extra "en")
  ((try k_extra "rf"); (repeat' (first | (k_extra "wb") | ((k_extra "lTr"); (k_extra "wo")))))
  rename News _ _ _ _ => N
  rename Fr _ _ _ _ => F
  refine truthy_dq (N _ (.tail _ (.tail _ (.tail _ (.tail _ (.head _)))))).1 ?_
  ((try k_extra "rf"); (repeat' (first | (k_extra "wb") | ((k_extra "lC"); (k_extra "wo")))))
  rename News _ _ _ _ => N
  rename Fr _ _ _ _ => F
  have wqs : ∀ a ∈ [q, dx, qs, ds], a ≠ s.heap.objs.size ∧ g.get? a = none := List.forall_mem_cons.mpr ⟨(N _ (.head _)).2, List.forall_mem_cons.mpr ⟨(N _ (.tail _ (.head _))).2, List.forall_mem_cons.mpr ⟨(N _ (.tail _ (.tail _ (.head _)))).2, List.forall_mem_cons.mpr ⟨(N _ (.tail _ (.tail _ (.tail _ (.head _))))).2, List.forall_mem_nil _⟩⟩⟩⟩
  have nin : d1 ∉ [q, dx, qs, ds] ∧ d2 ∉ [q, dx, qs, ds] := by
    constructor <;> simp only [List.mem_cons, List.not_mem_nil, or_false, not_or] <;> refine ⟨?_, ?_, ?_, ?_⟩ <;> (refine Nat.ne_of_gt ?_; (first | exact (ch3 1 0 1 0 1 0 1 0 ls lz l1 (Eq.refl true)) | exact (ch4 1 0 1 0 1 0 1 0 1 0 lq ls lz l1 (Eq.refl true)) | exact (ch1 1 0 1 0 l1 (Eq.refl true)) | exact (ch2 1 0 1 0 1 0 lz l1 (Eq.refl true)) | exact (ch4 1 0 1 0 1 0 1 0 1 0 ls lz l1 l2 (Eq.refl true)) | exact (lin5 6 [_, _, _, _, _, _] 0 (.a (.v 0) (.k 1)) (.v 1) 1 (.a (.v 0) (.k 1)) (.v 2) 1 (.a (.v 2) (.k 1)) (.v 3) 1 (.a (.v 3) (.k 1)) (.v 4) 1 (.a (.v 4) (.k 1)) (.v 5) 1 (.a (.v 5) (.k 1)) (.v 1) lq' ls' lz' l1' l2' rfl (Eq.refl true)) | exact (ch2 1 0 1 0 1 0 l1 l2 (Eq.refl true)) | exact (ch3 1 0 1 0 1 0 1 0 lz l1 l2 (Eq.refl true)) | omega))
  refine ct_rtok_end X T (fun b o e => F.keep b o (sg b o e)) (by first | exact roomd hroom rfl | exact room2 (j := 1) hroom rfl | (simp only [depth_deeper]; omega)) x t hx q dx qs ds d1 d2 (N _ (.head _)).1 ⟨_, (N _ (.tail _ (.head _))).1⟩ (N _ (.tail _ (.tail _ (.head _)))).1 (N _ (.tail _ (.tail _ (.tail _ (.head _))))).1 lq ls lz nq nd nqs nds ?_
  intro h2 tk2 v3' c1' c3' c4' kp e1 e2 e3 e4
  obtain ⟨mm, e2⟩ := e2
  have F2 := fr_kept F kp wqs
  have N2 := news_get N (.head _) e1 (news_get N (.tail _ (.head _)) e2 (news_get N (.tail _ (.tail _ (.head _))) e3 (news_get N (.tail _ (.tail _ (.tail _ (.head _)))) e4 (news_get N (.tail _ (.tail _ (.tail _ (.tail _ (.head _))))) (kp _ _ nin.1 (N _ (.tail _ (.tail _ (.tail _ (.tail _ (.head _)))))).1) (news_get N (.tail _ (.tail _ (.tail _ (.tail _ (.tail _ (.head _)))))) (kp _ _ nin.2 (N _ (.tail _ (.tail _ (.tail _ (.tail _ (.tail _ (.head _))))))).1) News.nil)))))
  dsimp only at N2
  clear F N kp e1 e2 e3 e4
  ((try k_extra "rf"); (repeat' (first | (k_extra "v0") | (k_extra "wn") | ((k_extra "ge"); (k_extra "ve")) | ((k_extra "gx"); (k_extra "lW"); (k_extra "vx")) | (k_extra "rq") | ((k_extra "lW"); (k_extra "wo")))))
  refine while_ (fun _ s' => s' = _) ?_ 0 rfl
  rintro nI s' rfl
  ((try k_extra "rf"); (repeat' (first | (k_extra "wb") | ((k_extra "lTr"); (k_extra "wo")))))
  rename News _ _ _ _ => N
  rename Fr _ _ _ _ => F
  refine truthy_dq (N _ (.tail _ (.tail _ (.tail _ (.tail _ (.tail _ (.head _))))))).1 ?_
  ((try k_extra "rf"); (repeat' (first | (k_extra "wb") | (k_extra "wo"))))
  (try dsimp only)
  rename News _ _ _ _ => N
  rename Fr _ _ _ _ => F
  exact ret _ _ (kept _ F.keep) ⟨(N _ (.head _)).1, ⟨_, 0, _, _, _, ⟨_, (N _ (.tail _ (.head _))).1⟩⟩, (N _ (.tail _ (.tail _ (.head _)))).1, ⟨_, _, _, _, _, (N _ (.tail _ (.tail _ (.tail _ (.head _))))).1⟩, (N _ (.tail _ (.tail _ (.tail _ (.tail _ (.head _)))))).1, (N _ (.tail _ (.tail _ (.tail _ (.tail _ (.tail _ (.head _))))))).1⟩
end TC8
section TC9
open PySem PySem.W PyProof.Rows PySem.Calls
set_option maxHeartbeats 16000000

theorem ct_next {w : World} {A : Around} {Q : Value → Shared → Prop} {s : Shared} {p : Program} {loose : List Str} {mean : ExcName → Option Value} {mg mb : Str → Option Value} {h₀ : Heap}
    (X : (Mine.top.heap_1_39 w.params).In h₀) (T : Top p loose mean mg mb h₀) (st₀ : Stays h₀ s.heap) (hroom : A.depth + 28 < recursionLimit)
    (x : Str) (t : Tok) (hx : x.length < 100000) (hok : ∀ c ∈ x.cps.toList, okc c) {q dx qs ds d1 d2 : Addr} (a : LexA h₀ q dx qs ds d1 d2) {k : Nat} (hk : k ≤ x.length)
    {tok rest : List Nat} {qd fin' : Bool} (hres : tokF (x.cps.toList.drop k) 32 [] false = some (tok, qd, fin', rest)) (hne : ¬ (qd = false ∧ tok = []))
    (L : LexS w s.heap q dx qs ds d1 d2 x t k false)
    (ret : ∀ h' tk t' k', Kept [q, dx, qs, ds, d1, d2] s.heap h' → LexS w h' q dx qs ds d1 d2 x t k' fin' → k' ≤ x.length → x.cps.toList.drop k' = rest → Q (.str (tx tok) t') { s with heap := h', toks := tk }) :
    wpAny (model PySem.Challenge.rw_aa0007_01.row.prog w) A (call (.ref 908) [.ref q]) Q noE s := by
  revert X; k_fill; intro X
  refine hideL ?_; intro gg1
  obtain ⟨lq, ls, lz, l1, l2, nq, nd, nqs, nds, n1, n2⟩ := a
  obtain ⟨hq, ⟨c1, c2, c3, c4, ln, hL⟩, hqs, ⟨u1, u2, u3, v1, v3, hds⟩, hd1, hd2⟩ := L
  k_unfold
  simp only [Bool.false_eq_true, if_false] at hL
  obtain ⟨kk, hdx⟩ := hL
  k_dflt (refine' enterG (h₀ := h₀) (binds := [(Str.ofString "self", Value.ref q)]) [(q, instObj 911 dx), (dx, dictOf (lexD w kk qs d1 d2 (.str (Str.ofString "") c1) (.bool true) (.str (one 32) c2) (.int ln c3) (.str (Str.ofString "") c4)) 19), (qs, instObj 727 ds), (ds, dictOf (sioD w u1 u2 u3 v1 (.str x t) (.int (k : Nat) v3)) 3), (d1, dqO #[] 0), (d2, dqO #[] 0)] ?k1 ?k2 ?k3 ?k4 ?k6 ?k7 ?k8 ?k9 ?kB ?_ ?c5 ?c2 ?c3 ?c4; (case k4 => exact List.forall_mem_cons.mpr ⟨⟨hq, nq⟩, List.forall_mem_cons.mpr ⟨⟨hdx, nd⟩, List.forall_mem_cons.mpr ⟨⟨hqs, nqs⟩, List.forall_mem_cons.mpr ⟨⟨hds, nds⟩, List.forall_mem_cons.mpr ⟨⟨hd1, n1⟩, List.forall_mem_cons.mpr ⟨⟨hd2, n2⟩, List.forall_mem_nil _⟩⟩⟩⟩⟩⟩); ((case k1 => assumption); (case k2 => assumption); (case k3 => assumption); (case k6 => k_is); (case k7 => k_is); (case k8 => (first | exact (ch1 26 0 1 0 hroom (Eq.refl true)) | exact (ch1 29 0 1 0 hroom (Eq.refl true)) | omega)); (case k9 => first | exact BindsTo.of_eq rfl | exact binds_K (Frag.In.keeps (by assumption) (by assumption)) rfl (by k_is) rfl rfl rfl); (case c5 => decide); (case kB => exact locs rfl); (case c2 => exact rfl); (case c3 => exact rfl); (case c4 => exact rfl)))
  have lq' : @LT.lt Nat _ dx q := lq
  have ls' : @LT.lt Nat _ q ds := ls
  have lz' : @LT.lt Nat _ ds qs := lz
  have l1' : @LT.lt Nat _ qs d1 := l1
  have l2' : @LT.lt Nat _ d1 d2 := l2
  intro g h₁ Xg Tg sg kept hsz F N
  (try k_extra "en")
  ((try k_extra "rf"); (repeat' (first | (k_extra "wb") | ((k_extra "lC"); (k_extra "wo")))))
  rename News _ _ _ _ => N
  rename Fr _ _ _ _ => F
  have wqs : ∀ a ∈ [q, dx, qs, ds, d1, d2], a ≠ s.heap.objs.size ∧ g.get? a = none := List.forall_mem_cons.mpr ⟨(N _ (.head _)).2, List.forall_mem_cons.mpr ⟨(N _ (.tail _ (.head _))).2, List.forall_mem_cons.mpr ⟨(N _ (.tail _ (.tail _ (.head _)))).2, List.forall_mem_cons.mpr ⟨(N _ (.tail _ (.tail _ (.tail _ (.head _))))).2, List.forall_mem_cons.mpr ⟨(N _ (.tail _ (.tail _ (.tail _ (.tail _ (.head _)))))).2, List.forall_mem_cons.mpr ⟨(N _ (.tail _ (.tail _ (.tail _ (.tail _ (.tail _ (.head _))))))).2, List.forall_mem_nil _⟩⟩⟩⟩⟩⟩
  refine ct_gtok X T (fun b o e => F.keep b o (sg b o e)) (by first | exact roomd hroom rfl | exact room2 (j := 1) hroom rfl | (simp only [depth_deeper]; omega)) x t hx hok ⟨lq, ls, lz, l1, l2, nq, nd, nqs, nds, n1, n2⟩ hk hres hne ⟨(N _ (.head _)).1, ⟨_, _, _, _, _, ⟨_, (N _ (.tail _ (.head _))).1⟩⟩, (N _ (.tail _ (.tail _ (.head _)))).1, ⟨_, _, _, _, _, (N _ (.tail _ (.tail _ (.tail _ (.head _))))).1⟩, (N _ (.tail _ (.tail _ (.tail _ (.tail _ (.head _)))))).1, (N _ (.tail _ (.tail _ (.tail _ (.tail _ (.tail _ (.head _))))))).1⟩ ?_
  intro h2 tk2 t' k' kp L2 hk' hrest
  have F2 := fr_kept F kp wqs
  refine hideL ?_; intro gg2
  obtain ⟨f1, ⟨c1', c2', c3', c4', ln', f2⟩, f3, ⟨u1', u2', u3', v1', v3', f4⟩, f5, f6⟩ := L2
  obtain ⟨mm, f2⟩ := f2
  k_unfold
  have N2 := news_get N (.head _) f1 (news_get N (.tail _ (.head _)) f2 (news_get N (.tail _ (.tail _ (.head _))) f3 (news_get N (.tail _ (.tail _ (.tail _ (.head _)))) f4 (news_get N (.tail _ (.tail _ (.tail _ (.tail _ (.head _))))) f5 (news_get N (.tail _ (.tail _ (.tail _ (.tail _ (.tail _ (.head _)))))) f6 News.nil)))))
  (try dsimp only at N2)
  clear F N kp f1 f2 f3 f4 f5 f6
  ((try k_extra "rf"); (repeat' (first | (k_extra "wb") | (k_extra "wo"))))
  (try dsimp only)
  rename News _ _ _ _ => N
  rename Fr _ _ _ _ => F
  exact ret _ _ _ k' (kept _ F.keep) ⟨(N _ (.head _)).1, ⟨_, c2', _, _, _, ⟨_, (N _ (.tail _ (.head _))).1⟩⟩, (N _ (.tail _ (.tail _ (.head _)))).1, ⟨_, _, _, _, _, (N _ (.tail _ (.tail _ (.tail _ (.head _))))).1⟩, (N _ (.tail _ (.tail _ (.tail _ (.tail _ (.head _)))))).1, (N _ (.tail _ (.tail _ (.tail _ (.tail _ (.tail _ (.head _))))))).1⟩ hk' hrest

theorem ct_next_end {w : World} {A : Around} {Q : Value → Shared → Prop} {s : Shared} {p : Program} {loose : List Str} {mean : ExcName → Option Value} {mg mb : Str → Option Value} {h₀ : Heap}
    (X : (Mine.top.heap_1_39 w.params).In h₀) (T : Top p loose mean mg mb h₀) (st₀ : Stays h₀ s.heap) (hroom : A.depth + 28 < recursionLimit)
    (x : Str) (t : Tok) (hx : x.length < 100000) {q dx qs ds d1 d2 : Addr} (a : LexA h₀ q dx qs ds d1 d2)
    (L : LexS w s.heap q dx qs ds d1 d2 x t x.length true)
    (hh : A.handled = none) {outer : List Env} {FR : List Addr} {B : Heap} (hfr : A.frames = some outer) (hFF : s.heap.FunFrames B outer) (hF : ∀ env ∈ outer, ∀ L, env.frame = some L → L ∈ FR) (hFo : ∀ L ∈ FR, L ∉ [q, dx, qs, ds, d1, d2])
    {E : Value → Shared → Prop} (ret : ∀ e' h' tk, Kept (FR ++ [q, dx, qs, ds, d1, d2]) s.heap h' → (∀ b ∈ FR, ∀ o, s.heap.get? b = some o → (∀ vs, o.data ≠ .fields vs) → ∃ sl, h'.get? b = some { o with slots := sl }) → (∃ ob, h'.get? e' = some ob ∧ ob.cls = .type "StopIteration") → E (.ref e') { s with heap := h', toks := tk }) :
    wpAny (model PySem.Challenge.rw_aa0007_01.row.prog w) A (call (.ref 908) [.ref q]) Q E s := by
  revert X; k_fill; intro X
  refine hideL ?_; intro gg3
  obtain ⟨lq, ls, lz, l1, l2, nq, nd, nqs, nds, n1, n2⟩ := a
  obtain ⟨hq, ⟨c1, c2, c3, c4, ln, hL⟩, hqs, ⟨u1, u2, u3, v1, v3, hds⟩, hd1, hd2⟩ := L
  k_unfold
  simp only [if_true] at hL
  obtain ⟨kk, hdx⟩ := hL
  k_dflt (refine' enterGx (h₀ := h₀) (outer := outer) (FR := FR) (B := B) (binds := [(Str.ofString "self", Value.ref q)]) [(q, instObj 911 dx), (dx, dictOf (lexD w kk qs d1 d2 (.str (Str.ofString "") c1) (.bool true) .none (.int ln c3) (.str (Str.ofString "") c4)) 19), (qs, instObj 727 ds), (ds, dictOf (sioD w u1 u2 u3 v1 (.str x t) (.int (x.length : Nat) v3)) 3), (d1, dqO #[] 0), (d2, dqO #[] 0)] hfr hFF hF ?kFo ?k1 ?k2 ?k3 ?k4 ?k6 ?k7 ?k8 ?k9 ?kB ?_ ?c5 ?c2 ?c3 ?c4; (case kFo => exact hFo); (case k4 => exact List.forall_mem_cons.mpr ⟨⟨hq, nq⟩, List.forall_mem_cons.mpr ⟨⟨hdx, nd⟩, List.forall_mem_cons.mpr ⟨⟨hqs, nqs⟩, List.forall_mem_cons.mpr ⟨⟨hds, nds⟩, List.forall_mem_cons.mpr ⟨⟨hd1, n1⟩, List.forall_mem_cons.mpr ⟨⟨hd2, n2⟩, List.forall_mem_nil _⟩⟩⟩⟩⟩⟩); ((case k1 => assumption); (case k2 => assumption); (case k3 => assumption); (case k6 => k_is); (case k7 => k_is); (case k8 => (first | exact (ch1 29 0 1 0 hroom (Eq.refl true)) | omega)); (case k9 => first | exact BindsTo.of_eq rfl | exact binds_K (Frag.In.keeps (by assumption) (by assumption)) rfl (by k_is) rfl rfl rfl); (case c5 => decide); (case kB => exact locs rfl); (case c2 => exact rfl); (case c3 => exact rfl); (case c4 => exact rfl)))
  have lq' : @LT.lt Nat _ dx q := lq
  have ls' : @LT.lt Nat _ q ds := ls
  have lz' : @LT.lt Nat _ ds qs := lz
  have l1' : @LT.lt Nat _ qs d1 := l1
  have l2' : @LT.lt Nat _ d1 d2 := l2
  intro g h₁ Xg Tg sg kept hsz F N
  (try k_extra "en")
  ((try k_extra "rf"); (repeat' (first | (k_extra "wb") | ((k_extra "lC"); (k_extra "wo")))))
  rename News _ _ _ _ => N
  rename Fr _ _ _ _ => F
  have wqs : ∀ a ∈ [q, dx, qs, ds, d1, d2], a ≠ s.heap.objs.size ∧ g.get? a = none := List.forall_mem_cons.mpr ⟨(N _ (.head _)).2, List.forall_mem_cons.mpr ⟨(N _ (.tail _ (.head _))).2, List.forall_mem_cons.mpr ⟨(N _ (.tail _ (.tail _ (.head _)))).2, List.forall_mem_cons.mpr ⟨(N _ (.tail _ (.tail _ (.tail _ (.head _))))).2, List.forall_mem_cons.mpr ⟨(N _ (.tail _ (.tail _ (.tail _ (.tail _ (.head _)))))).2, List.forall_mem_cons.mpr ⟨(N _ (.tail _ (.tail _ (.tail _ (.tail _ (.tail _ (.head _))))))).2, List.forall_mem_nil _⟩⟩⟩⟩⟩⟩
  refine wpAny_mono (E := noE) (ct_gtok_end X T (fun b o e => F.keep b o (sg b o e)) (by first | exact roomd hroom rfl | exact room2 (j := 1) hroom rfl | (simp only [depth_deeper]; omega)) x t hx ⟨lq, ls, lz, l1, l2, nq, nd, nqs, nds, n1, n2⟩ ⟨(N _ (.head _)).1, ⟨_, 0, _, _, _, ⟨_, (N _ (.tail _ (.head _))).1⟩⟩, (N _ (.tail _ (.tail _ (.head _)))).1, ⟨_, _, _, _, _, (N _ (.tail _ (.tail _ (.tail _ (.head _))))).1⟩, (N _ (.tail _ (.tail _ (.tail _ (.tail _ (.head _)))))).1, (N _ (.tail _ (.tail _ (.tail _ (.tail _ (.tail _ (.head _))))))).1⟩ ?_) (fun _ _ x => x) (fun _ _ x => x.elim)
  intro h2 tk2 kp L2
  have F2 := fr_kept F kp wqs
  refine hideL ?_; intro gg4
  obtain ⟨f1, ⟨c1', c2', c3', c4', ln', f2⟩, f3, ⟨u1', u2', u3', v1', v3', f4⟩, f5, f6⟩ := L2
  obtain ⟨mm, f2⟩ := f2
  k_unfold
  have N2 := news_get N (.head _) f1 (news_get N (.tail _ (.head _)) f2 (news_get N (.tail _ (.tail _ (.head _))) f3 (news_get N (.tail _ (.tail _ (.tail _ (.head _)))) f4 (news_get N (.tail _ (.tail _ (.tail _ (.tail _ (.head _))))) f5 (news_get N (.tail _ (.tail _ (.tail _ (.tail _ (.tail _ (.head _)))))) f6 News.nil)))))
  (try dsimp only at N2)
  clear F N kp f1 f2 f3 f4 f5 f6
  ((try k_extra "rf"); (repeat' (first | (k_extra "v0") | (k_extra "wn") | ((k_extra "ge"); (k_extra "ve")) | ((k_extra "gx"); (k_extra "lRa"); (k_extra "vx")) | (k_extra "rq") | ((k_extra "lRa"); (k_extra "wo")))))
  rename News _ _ _ _ => N
  rename Fr _ _ _ _ => F
  k_dflt (refine' owsi_raiseC ?hh ?hx ?_; (case hh => exact hh); (case hx => (refine' name_B F ?k1 ?k2 ?k3 ?k4 ?k5 ?_; (case k1 => k_asm); (case k2 => k_asm); (case k3 => k_is); (case k4 => boot_by_name); (case k5 => decide); exact ⟨rfl, rfl⟩)))
  intro hx' ex hm
  refine ⟨_, _, ex, hx', _, rfl, rfl, hm, F, fun h'' tk k1 k2 k3 => ?_⟩
  refine ret ex h'' tk (fun b o hb e => ?_) (fun b hb o e hnf => ?_) k2
  · have hb2 : b ∉ [q, dx, qs, ds, d1, d2] := fun m => hb (List.mem_append_right _ m)
    exact k1 b o (Nat.ne_of_lt (Heap.lt_size e)) (fun m => hb (List.mem_append_left _ m)) (kept _ F.keep b o hb2 e)
  · exact k3 b o (kept _ F.keep b o (hFo b hb) e) hnf
end TC9
section TC10
open PySem PySem.W PyProof.Rows PySem.Calls
set_option maxHeartbeats 16000000

theorem ct_iter {w : World} {A : Around} {Q : Value → Shared → Prop} {s : Shared} {p : Program} {loose : List Str} {mean : ExcName → Option Value} {mg mb : Str → Option Value} {h₀ : Heap}
    (X : (Mine.top.heap_1_39 w.params).In h₀) (T : Top p loose mean mg mb h₀) (st₀ : Stays h₀ s.heap) (hroom : A.depth + 2 < recursionLimit)
    {q dx : Addr} (hq : s.heap.get? q = some (instObj 911 dx)) (nq : h₀.get? q = none)
    (ret : ∀ h' tk, Stays s.heap h' → Q (.ref q) { s with heap := h', toks := tk }) :
    wpAny (model PySem.Challenge.rw_aa0007_01.row.prog w) A (call (.ref 901) [.ref q]) Q noE s := by
  revert X; k_fill; intro X
  k_dflt (refine' enterG (h₀ := h₀) (binds := [(Str.ofString "self", Value.ref q)]) [(q, instObj 911 dx)] ?k1 ?k2 ?k3 ?k4 ?k6 ?k7 ?k8 ?k9 ?kB ?_ ?c5 ?c2 ?c3 ?c4; (case k4 => exact List.forall_mem_cons.mpr ⟨⟨hq, nq⟩, List.forall_mem_nil _⟩); ((case k1 => assumption); (case k2 => assumption); (case k3 => assumption); (case k6 => k_is); (case k7 => k_is); (case k8 => (first | exact (ch1 3 0 1 0 hroom (Eq.refl true)) | omega)); (case k9 => first | exact BindsTo.of_eq rfl | exact binds_K (Frag.In.keeps (by assumption) (by assumption)) rfl (by k_is) rfl rfl rfl); (case c5 => decide); (case kB => exact locs rfl); (case c2 => exact rfl); (case c3 => exact rfl); (case c4 => exact rfl)))
  intro g h₁ Xg Tg sg kept hsz F N
  (try k_extra "en")
  ((try k_extra "rf"); (repeat' (first | (k_extra "wb") | (k_extra "wo"))))
  (try dsimp only)
  rename News _ _ _ _ => N
  rename Fr _ _ _ _ => F
  refine ret _ _ (fun b o e => ?_)
  by_cases hb : b = q
  · subst hb; rw [hq] at e; cases e; exact (N _ (.head _)).1
  · exact kept _ F.keep b o (fun m => hb (List.mem_singleton.mp m)) e

section
variable {M : Model} {A : Around} {E : Value → Shared → Prop} {s : Shared} {K : Frag} {x C f : Addr} {ox : Obj} {od : Option Obj}
theorem next_own {Q : Option Value → Shared → Prop} (X : K.In s.heap) (I : InstAt s.heap x ox C od) (hs : findIn K (.ref C) "__next__" = some (some (.ref f))) (hf : isFn K (.ref f) = true)
    (h : wpAny M A (call (.ref f) [.ref x]) (fun v s' => Q (some v) s') (OwitStop M A Q E) s) : wpAny M A (pyNext (.ref x)) Q E s := by
  unfold pyNext
  refine wpAny_bind (wpAny_attempt (special_fn (name := "__next__") (args := []) X I hs (beq_iff_eq.mp hf) (wpAny_mono h (fun v s' hq => ?_) (fun e s' he => ?_))))
  · exact wpAny_pure hq
  · refine wpAny_bind (wpAny_mono he (fun b s₂ hb => ?_) fun _ _ z => z)
    cases b with
    | true => exact wpAny_pure hb
    | false => exact wpAny_throw hb
end

theorem some_ne {α : Type} {a : Option α} {o : α} (e : a = some o) (n : a = none) : False := by rw [n] at e; cases e
structure LoopEnv (A : Around) (h₀ : Heap) (FR : List Addr) (outer : List Env) (hp : Heap) (own : List Addr) : Prop where
  hh : A.handled = none
  hfr : A.frames = some outer
  hFF : hp.FunFrames (hideAll hp FR) outer
  hF : ∀ env ∈ outer, ∀ L, env.frame = some L → L ∈ FR
  hFo : ∀ L ∈ FR, L ∉ own

theorem loop_own {w : World} {A : Around} {p : Program} {loose : List Str} {mean : ExcName → Option Value} {mg mb : Str → Option Value} {h₀ : Heap}
    (X : (Mine.top.heap_1_39 w.params).In h₀) (T : Top p loose mean mg mb h₀) (hroom : A.depth + 28 < recursionLimit) (x : Str) (t : Tok) (hx : x.length < 100000) (hok : ∀ c ∈ x.cps.toList, okc c) {q dx qs ds d1 d2 : Addr} (a : LexA h₀ q dx qs ds d1 d2)
    {S : Addr} (nS : h₀.get? S = none) (hS : S ∉ [q, dx, qs, ds, d1, d2]) {outer : List Env} {FR : List Addr} (hSF : S ∉ FR) :
    ∀ (ws : List (List Nat)) (k : Nat) (fin : Bool) (s : Shared) (acc : Array Value) (c : Nat) {R : Result → Shared → Prop}, Toks ws (x.cps.toList.drop k) fin → k ≤ x.length → LexS w s.heap q dx qs ds d1 d2 x t k fin → Stays h₀ s.heap →
      LoopEnv A h₀ FR outer s.heap [q, dx, qs, ds, d1, d2] → s.heap.get? S = some { cls := .type "list", dict := none, data := .seq acc c, slots := #[] } → acc.size + ws.length ≤ 1000 →
      (∀ h' tk c' l, Kept (S :: FR ++ [q, dx, qs, ds, d1, d2]) s.heap h' → (∀ b ∈ FR, ∀ o, s.heap.get? b = some o → (∀ vs, o.data ≠ .fields vs) → ∃ sl, h'.get? b = some { o with slots := sl }) →
        h'.get? S = some { cls := .type "list", dict := none, data := .seq (acc ++ (strValues l).toArray) c', slots := #[] } → l.map (·.1) = ws.map tx → R (.ok (.ret .none)) { s with heap := h', toks := tk }) →
      codeAny (model PySem.Challenge.rw_aa0007_01.row.prog w) A (.builtin "list.extend.loop" ⟨[.ref S, .ref q, .none], []⟩) R s := by
  have hcl : findIn (Mine.top.heap_1_39 w.params) (.ref 911) "__next__" = some (some (.ref 908)) ∧ isFn (Mine.top.heap_1_39 w.params) (.ref 908) = true := by
    revert X; k_fill; intro X
    exact ⟨by k_is, by k_is⟩
  intro ws
  induction ws with
  | nil =>
    intro k fin s acc c R ht hk L st le hSl hsz hR
    obtain ⟨rfl, hr⟩ := ht
    have hkx : k = x.length := by
      have := congrArg List.length hr
      simp [Str.length] at this hk ⊢; (first | exact (Nat.le_antisymm (lin1 2 [_, _] 0 (.v 0) (.v 1) 1 (.v 0) (.v 1) hk rfl (Eq.refl true)) (lin2 3 [_, _, _] 0 (.v 0) (.v 1) 1 (.v 2) (.k 0) 1 (.v 0) (.a (.v 2) (.v 1)) (Nat.le_of_eq this) (Nat.le_add_of_sub_le (Nat.le_refl _)) rfl (Eq.refl true))) | omega)
    subst hkx
    refine codeAny_builtin F.entry_extend_loop ?_
    rw [Around.under_plainId F.plain_extend_loop _]
    show wpAny _ A.in1 (pyNext (.ref q) >>= _) _ _ s
    obtain ⟨od, hI⟩ := L.inst
    refine wpAny_bind (next_own (X.keeps st) (C := 911) hI hcl.1 hcl.2 ?_)
    refine ct_next_end (A := A.in1) X T st hroom x t hx a L le.hh le.hfr le.hFF le.hF le.hFo ?_
    intro e' h' tk kp sl hob
    refine hideL ?_; intro gg1
    obtain ⟨ob, hob, hcls⟩ := hob
    k_unfold
    unfold OwitStop
    refine wpAny_isInstance (⟨ob, hob, hcls⟩ : Shared.TypeIs _ (.ref e') "StopIteration") owsi_facts.sub ?_
    rw [if_pos rfl]
    refine wpAny_pure (hR h' tk c [] (fun b o hb e => kp b o (fun m => hb (.tail _ m)) e) sl ?_ rfl)
    have : acc ++ (strValues []).toArray = acc := by simp [strValues]
    rw [this]
    refine kp S _ (fun m => ?_) hSl
    rcases List.mem_append.mp m with m | m
    · exact hSF m
    · exact hS m
  | cons w1 ws ih =>
    intro k fin s acc c R ht hk L st le hSl hsz hR
    refine hideL ?_; intro gg2
    obtain ⟨rfl, qd, f', r', ht1, ht2, ht3⟩ := ht
    k_unfold
    refine codeAny_builtin F.entry_extend_loop ?_
    rw [Around.under_plainId F.plain_extend_loop _]
    show wpAny _ A.in1 (pyNext (.ref q) >>= _) _ _ s
    obtain ⟨od, hI⟩ := L.inst
    refine wpAny_bind (next_own (X.keeps st) (C := 911) hI hcl.1 hcl.2 ?_)
    refine wpAny_mono (ct_next (A := A.in1) (Q := _) X T st hroom x t hx hok a hk ht1 ht2 L ?_) (fun _ _ x => x) (fun _ _ x => x.elim)
    intro h' tk t' k' kp L' hk' hdr
    have hS' : h'.get? S = some { cls := .type "list", dict := none, data := .seq acc c, slots := #[] } := kp S _ hS hSl
    show wpAny _ A.in1 (updateSeq S (·.push (.str (tx w1) t')) >>= _) _ _ _
    refine wpAny_bind ?_
    have oth : ∀ b o, b ≠ S → h'.get? b = some o → (h'.update S (Obj.mapSeq (·.push (.str (tx w1) t')))).get? b = some o := fun b o hb e => (Heap.get?_update_other _ _ (Ne.symm hb)).trans e
    have hne : ∀ b ∈ [q, dx, qs, ds, d1, d2], b ≠ S := fun b hb e => hS (e ▸ hb)
    have hkF : ∀ L ∈ FR, ∀ o, s.heap.get? L = some o → (h'.update S (Obj.mapSeq (·.push (.str (tx w1) t')))).get? L = some o := fun L hL o e => oth _ _ (fun z => hSF (z ▸ hL)) (kp _ _ (le.hFo L hL) e)
    have hl1000 : (1000 : Nat) ≤ sizeLine := by decide
    have zz1 : acc.size ≤ sizeLine := by simp only [List.length_cons] at hsz; (first | exact (lin2 3 [_, _, _] 0 (.v 0) (.v 1) 1 (.a (.v 0) (.a (.v 2) (.k 1))) (.k 1000) 1 (.k 1000) (.v 1) hsz hl1000 rfl (Eq.refl true)) | omega)
    have zz2 : (acc.push (Value.str (tx w1) t')).size ≤ sizeLine + 1 := by rw [Array.size_push]; (first | exact (ch1 0 0 1 1 zz1 (Eq.refl true)) | omega)
    refine wpAny_updateSeq hS' rfl (wpAny_pure ⟨plainId_quiet F.plain_extend_loop _, ih k' f' _ (acc.push (.str (tx w1) t')) _ (R := R) (hdr ▸ ht3) hk' ?_ ?_ ?_ (Heap.get?_update_self _ hS' rfl) ?_ ?_⟩) zz1 zz2
    · exact L'.mono fun b hb o e => oth b o (hne b hb) e
    · intro b o e
      exact oth b o (fun z => some_ne (z ▸ e) nS) (kp b o (fun m => some_ne e (a.new b m)) (st b o e))
    · exact ⟨le.hh, le.hfr, hide_frames le.hFF le.hF (fun b hb o e => hkF b hb o e), le.hF, le.hFo⟩
    · rw [Array.size_push]; simp only [List.length_cons] at hsz; (first | exact (lin1 2 [_, _] 0 (.a (.a (.v 0) (.k 1)) (.v 1)) (.k 1000) 1 (.a (.v 0) (.a (.v 1) (.k 1))) (.k 1000) hsz rfl (Eq.refl true)) | omega)
    · intro h'' tk'' c'' l kp2 sl2 hS2 hl
      refine hR h'' tk'' c'' ((tx w1, t') :: l) (fun b o hb e => kp2 b o hb (oth b o (fun z => hb (z ▸ .head _)) (kp b o (fun m => hb (.tail _ (List.mem_append_right _ m))) e))) (fun b hb o e hnf => sl2 b hb o (hkF b hb o e) hnf) ?_ (by simp [hl])
      rw [hS2]
      simp [strValues]
end TC10
section TC11
open PySem PySem.W PyProof.Rows PySem.Calls
set_option maxHeartbeats 16000000

section
variable {M : Model} {A : Around} {E : Value → Shared → Prop} {s : Shared} {K : Frag} {x C f : Addr} {ox : Obj} {od : Option Obj}
theorem iter_own {Q : Value → Shared → Prop} (X : K.In s.heap) (I : InstAt s.heap x ox C od) (hs : findIn K (.ref C) "__iter__" = some (some (.ref f))) (hf : isFn K (.ref f) = true)
    (h : wpAny M A (call (.ref f) [.ref x]) (OwitIt M A Q E) E s) : wpAny M A (pyIter (.ref x)) Q E s := by
  have fin : wpAny M A (call (.ref f) [.ref x] >>= fun v => pure (some v)) (fun r s' => ∃ v, r = some v ∧ OwitIt M A Q E v s') E s :=
    wpAny_bind (wpAny_mono h (fun v s' h' => wpAny_pure ⟨v, rfl, h'⟩) fun _ _ z => z)
  have one : ∀ refuse : Sem Value, wpAny M A (callSpecialIfBoundUnlessNone? (.ref x) "__iter__" refuse) (fun r s' => ∃ v, r = some v ∧ OwitIt M A Q E v s') E s := by
    intro refuse
    simp only [callSpecialIfBoundUnlessNone?, bindSpecialIfBound?]
    refine wpAny_holding (wpAny_bind (wpAny_bind (wpAny_bind (I.type.here ((looks_findIn X hs).here ?_)))))
    refine wpAny_bind (wpAny_askSetting (wpAny_ite ?_))
    have fin2 : wpAny M A (if (Value.ref f == Value.none) = true then (refuse >>= fun v => pure (some v)) else (call (.ref f) [.ref x] >>= fun v => pure (some v))) (fun r s' => ∃ v, r = some v ∧ OwitIt M A Q E v s') E s := by
      rw [if_neg (show ¬ ((Value.ref f == Value.none) = true) from Bool.false_ne_true)]
      exact fin
    split
    · exact wpAny_bind ((bind_fn X _ (beq_iff_eq.mp hf)).here (wpAny_pure (by exact fin2)))
    · exact wpAny_tryCatch (wpAny_bind ((bind_fn X _ (beq_iff_eq.mp hf)).here (wpAny_pure (by exact fin2))))
  unfold pyIter
  refine wpAny_bind (wpAny_bind (I.type.here ((looks_findIn X hs).here ?_)))
  show wpAny M A (callSpecialIfBoundUnlessNone? (.ref x) "__iter__" _ >>= _) Q E s
  refine wpAny_bind (wpAny_mono (one _) (fun r s' hr => ?_) fun _ _ z => z)
  refine hideL ?_; intro gg1
  obtain ⟨v, rfl, hv⟩ := hr
  k_unfold
  refine wpAny_bind (wpAny_mono hv (fun r s₂ hr => ?_) fun _ _ z => z)
  cases r with
  | none => exact hr.elim
  | some g => exact wpAny_pure hr
end

theorem list_lex {w : World} {A : Around} {Q : Value → Shared → Prop} {E : Value → Shared → Prop} {s : Shared} {p : Program} {loose : List Str} {mean : ExcName → Option Value} {mg mb : Str → Option Value} {h₀ : Heap}
    (X : (Mine.top.heap_1_39 w.params).In h₀) (T : Top p loose mean mg mb h₀) (st : Stays h₀ s.heap) (hroom : A.depth + 28 < recursionLimit) (x : Str) (t : Tok) (hx : x.length < 100000) (hok : ∀ c ∈ x.cps.toList, okc c) {q dx qs ds d1 d2 : Addr} (a : LexA h₀ q dx qs ds d1 d2)
    {outer : List Env} {FR : List Addr} {ws : List (List Nat)} (ht : Toks ws x.cps.toList false) (hws : ws.length ≤ 1000) (L : LexS w s.heap q dx qs ds d1 d2 x t 0 false) (le : LoopEnv A h₀ FR outer s.heap [q, dx, qs, ds, d1, d2]) (hFs : ∀ b ∈ FR, b < s.heap.objs.size)
    (ret : ∀ h' tk c l, Kept (FR ++ [q, dx, qs, ds, d1, d2]) s.heap h' → (∀ b ∈ FR, ∀ o, s.heap.get? b = some o → (∀ vs, o.data ≠ .fields vs) → ∃ sl, h'.get? b = some { o with slots := sl }) →
        h'.get? s.heap.objs.size = some { cls := .type "list", dict := none, data := .seq (strValues l).toArray c, slots := #[] } → l.map (·.1) = ws.map tx → Q (.ref s.heap.objs.size) { s with heap := h', toks := tk }) :
    wpAny (model PySem.Challenge.rw_aa0007_01.row.prog w) A (call (.type "list") [.ref q]) Q E s := by
  revert X; k_fill; intro X
  have hcl : findIn (Mine.top.heap_1_39 w.params) (.ref 911) "__iter__" = some (some (.ref 901)) ∧ isFn (Mine.top.heap_1_39 w.params) (.ref 901) = true ∧ findIn (Mine.top.heap_1_39 w.params) (.ref 911) "__next__" = some (some (.ref 908)) ∧ findIn (Mine.top.heap_1_39 w.params) (.ref 911) "__len__" = some none ∧ findIn (Mine.top.heap_1_39 w.params) (.ref 911) "__length_hint__" = some none := by
    exact ⟨by k_is, by k_is, by k_is, by k_is, by k_is⟩
  generalize hS0 : s.heap.objs.size = S at ret hFs
  have hSnew : ∀ b o, s.heap.get? b = some o → b ≠ S := fun b o e z => by
    have := Heap.lt_size e; rw [z, hS0] at this; exact Nat.lt_irrefl _ this
  have nS : h₀.get? S = none := by
    cases e : h₀.get? S with
    | none => rfl
    | some o => exact absurd rfl (hSnew _ _ (st _ _ e))
  refine callType_codes (Q₁ := fun obj s₁ => obj = .ref S ∧ s₁ = { s with heap := s.heap.push { cls := .type "list", data := .seq #[] } }) F.called_list (F.typeCall_list_1 _) F.entry_list_init
    (code_list_new _ ⟨by rw [hS0], rfl⟩) fun obj s₁ h₁ => ?_
  obtain ⟨rfl, rfl⟩ := h₁
  have hS : (s.heap.push { cls := .type "list", data := .seq #[] }).get? S = some { cls := .type "list", data := .seq #[] } := by rw [← hS0]; exact Heap.get?_push_size _ rfl
  refine ⟨⟨_, hS, rfl⟩, F.args_list_init_2 _ _, ?_⟩
  have L0 := L
  refine hideL ?_; intro gg2
  obtain ⟨hq, ⟨c1, c2, c3, c4, ln, hL⟩, hqs, ⟨u1, u2, u3, v1, v3, hds⟩, hd1, hd2⟩ := L
  obtain ⟨kk, hdx⟩ := hL
  k_unfold
  have hSl : S ∉ [q, dx, qs, ds, d1, d2] := by
    intro m
    simp only [List.mem_cons, List.not_mem_nil, or_false] at m
    rcases m with rfl | rfl | rfl | rfl | rfl | rfl
    · exact hSnew _ _ hq rfl
    · exact hSnew _ _ hdx rfl
    · exact hSnew _ _ hqs rfl
    · exact hSnew _ _ hds rfl
    · exact hSnew _ _ hd1 rfl
    · exact hSnew _ _ hd2 rfl
  have hSF : S ∉ FR := fun m => Nat.lt_irrefl _ (hFs _ m)
  show wpAny _ A.in1.in1 (do let old ← Builtin.List.listItems (.ref S); Builtin.List.listUpdate (.ref S) (fun _ => #[]); letGo old.toList.reverse; Builtin.List.listExtendWith (.ref S) (.ref q) .none) _ _ _
  refine wpAny_bind ?_
  unfold Builtin.List.listItems
  refine wpAny_bind (wpAny_seqItems hS rfl (wpAny_pure ?_))
  show wpAny _ _ (updateSeq S (fun _ => #[]) >>= fun _ => letGo (#[] : Array Value).toList.reverse >>= fun _ => Builtin.List.listExtendWith (.ref S) (.ref q) .none) _ _ _
  refine wpAny_bind (wpAny_updateSeq hS rfl ?_)
  rw [update_same hS rfl]
  refine wpAny_bind (wpAny_letGo ?_)
  have push : ∀ b o, s.heap.get? b = some o → (s.heap.push { cls := .type "list", data := .seq #[] }).get? b = some o := fun b o e => Heap.get?_push_of_some _ e
  have st1 : Stays h₀ (s.heap.push { cls := .type "list", data := .seq #[] }) := fun b o e => push b o (st b o e)
  have I1 : InstAt (s.heap.push { cls := .type "list", data := .seq #[] }) q (instObj 911 dx) 911 (some _) := ⟨push _ _ hq, rfl, rfl, push _ _ hdx⟩
  unfold Builtin.List.listExtendWith
  refine wpAny_bind (I1.type.here ?_)
  have h1 : Builtin.List.listSameRef (.ref S) (.ref q) = false := by
    simp only [Builtin.List.listSameRef, beq_eq_false_iff_ne]
    exact fun z => hSl (z ▸ .head _)
  have h2 : (Value.ref 911 == Value.type "list") = false := by decide
  have h3 : (Value.ref 911 == Value.type "tuple") = false := by decide
  simp only [h1, h2, h3, Bool.or_false, Bool.false_eq_true, if_false]
  refine wpAny_bind (iter_own (X.keeps st1) I1 hcl.1 hcl.2.1 (wpAny_mono (ct_iter X T st1 (by show A.depth + 2 < _; (first | exact (ch1 29 0 3 0 hroom (Eq.refl true)) | omega)) (push _ _ hq) a.nq ?_) (fun _ _ x => x) (fun _ _ x => x.elim)))
  intro h2 tk2 k2
  have st2 : Stays h₀ h2 := fun b o e => k2 b o (st1 b o e)
  have I2 : InstAt h2 q (instObj 911 dx) 911 (some _) := ⟨k2 _ _ (push _ _ hq), rfl, rfl, k2 _ _ (push _ _ hdx)⟩
  unfold OwitIt
  refine wpAny_bind (I2.type.here ((looks_findIn (X.keeps st2) hcl.2.2.1).here ?_))
  refine wpAny_bind (wpAny_holding ?_)
  unfold Builtin.List.listLengthHint
  refine wpAny_bind (wpAny_bind (I2.type.here ((looks_findIn (X.keeps st2) hcl.2.2.2.1).here ?_)))
  show wpAny _ _ (specialOf (Value.ref q) (Str.ofString "__length_hint__") >>= _) _ _ _
  refine wpAny_bind (wpAny_bind (I2.type.here ((looks_findIn (X.keeps st2) hcl.2.2.2.2).here ?_)))
  refine wpAny_pure ?_
  show wpAny _ A.in1.in1 (rule "list.extend.makes-room" >>= fun _ => Builtin.List.listTouch (.ref S) >>= fun _ =>
    again (.builtin "list.extend.loop" ⟨[.ref S, .ref q, .none], []⟩)) _ _ _
  refine wpAny_bind (wpAny_rule ?_)
  refine wpAny_bind ?_
  show wpAny _ _ (updateSeq S (·.push .none) >>= fun _ => updateSeq S (·.pop)) _ _ _
  have hS1 := k2 _ _ hS
  refine wpAny_bind (wpAny_updateSeq hS1 rfl ?_)
  have hS2 := Heap.get?_update_self (Obj.mapSeq (·.push Value.none)) hS1 rfl
  refine wpAny_updateSeq (hz := by seq_fits) hS2 rfl ?_
  have hS3 := Heap.get?_update_self (Obj.mapSeq (·.pop)) hS2 rfl
  have oth : ∀ b o, b ≠ S → h2.get? b = some o → ((h2.update S (Obj.mapSeq (·.push Value.none))).update S (Obj.mapSeq (·.pop))).get? b = some o :=
    fun b o hb e => (Heap.get?_update_other _ _ (Ne.symm hb)).trans ((Heap.get?_update_other _ _ (Ne.symm hb)).trans e)
  have all : ∀ b o, s.heap.get? b = some o → ((h2.update S (Obj.mapSeq (·.push Value.none))).update S (Obj.mapSeq (·.pop))).get? b = some o := fun b o e => oth b o (hSnew b o e) (k2 _ _ (push _ _ e))
  refine wpAny_pure ⟨plainId_quiet F.plain_extend_loop _, loop_own (A := A.in1) X T (by show A.depth + 28 < _; (first | exact (ch1 29 0 29 0 hroom (Eq.refl true)) | omega)) x t hx hok a nS hSl hSF (outer := outer) (FR := FR) ws 0 false _ #[] _ (by rw [List.drop_zero]; exact ht) (Nat.zero_le _) ?_ (fun b o e => all b o (st b o e)) ?_ hS3 (by simp; (first | exact (ch1 0 1000 0 1000 hws (Eq.refl true)) | omega)) ?_⟩
  · exact ⟨all _ _ hq, ⟨_, _, _, _, _, ⟨_, all _ _ hdx⟩⟩, all _ _ hqs, ⟨_, _, _, _, _, all _ _ hds⟩, all _ _ hd1, all _ _ hd2⟩
  · exact ⟨le.hh, le.hfr, hide_frames le.hFF le.hF (fun b _ o e => all b o e), le.hF, le.hFo⟩
  · intro h' tk c' l kp sl hS' hl
    refine ⟨rfl, ?_⟩
    refine ret h' tk c' l (fun b o hb e => kp b o (fun m => ?_) (all b o e)) (fun b hb o e hnf => sl b hb o (all b o e) hnf) (by rw [hS']; simp) hl
    rcases List.mem_cons.mp m with m | m
    · exact hSnew _ _ e m
    · exact hb m
end TC11
section TC12
open PySem PySem.W PyProof.Rows PySem.Calls
set_option maxHeartbeats 16000000

theorem some_none {α : Type _} {o : α} {x : Option α} {P : Prop} (h1 : x = some o) (h2 : x = none) : P := by rw [h2] at h1; cases h1
theorem ct_split {w : World} {A : Around} {Q : Value → Shared → Prop} {s : Shared} {p : Program} {loose : List Str} {mean : ExcName → Option Value} {mg mb : Str → Option Value} {h₀ : Heap}
    (X : (Mine.top.heap_1_39 w.params).In h₀) (T : Top p loose mean mg mb h₀) (st₀ : Stays h₀ s.heap) (hroom : A.depth + 40 < recursionLimit)
    (x : Str) (t : Tok) (hx : x.length < 100000) (hok : ∀ c ∈ x.cps.toList, okc c) {ws : List (List Nat)} (ht : Toks ws x.cps.toList false) (hws : ws.length ≤ 1000)
    (hh : A.handled = none) {env₀ : Env} (hfr : A.frames = some [env₀]) (hkm : env₀.scope.kind ≠ .module) {Lw : Addr} {oL : Obj} (hf : env₀.frame = some Lw) (hL : s.heap.get? Lw = some oL) (hLd : ∀ vs, oL.data ≠ .fields vs) (nL : h₀.get? Lw = none)
    (ret : ∀ h' tk D c l sl, Kept [Lw] s.heap h' → h'.get? Lw = some { oL with slots := sl } → h'.get? D = some { cls := .type "list", dict := none, data := .seq (strValues l).toArray c, slots := #[] } → s.heap.objs.size ≤ D → l.map (·.1) = ws.map tx → Q (.ref D) { s with heap := h', toks := tk }) :
    wpAny (model PySem.Challenge.rw_aa0007_01.row.prog w) A (call (.ref 923) [.str x t]) Q noE s := by
  revert X; k_fill; intro X
  k_dflt (refine' enterG (h₀ := h₀) (binds := [(Str.ofString "s", Value.str x t), (Str.ofString "comments", Value.bool false), (Str.ofString "posix", Value.bool true)]) [(Lw, oL)] ?k1 ?k2 ?k3 ?k4 ?k6 ?k7 ?k8 ?k9 ?kB ?_ ?c5 ?c2 ?c3 ?c4; (case k4 => exact List.forall_mem_cons.mpr ⟨⟨hL, nL⟩, List.forall_mem_nil _⟩); ((case k1 => assumption); (case k2 => assumption); (case k3 => assumption); (case k6 => k_is); (case k7 => k_is); (case k8 => (first | exact (ch1 41 0 1 0 hroom (Eq.refl true)) | omega)); (case k9 => first | exact BindsTo.of_eq rfl | exact binds_K (Frag.In.keeps (by assumption) (by assumption)) rfl (by k_is) rfl rfl rfl); (case c5 => decide); (case kB => exact locs rfl); (case c2 => exact rfl); (case c3 => exact rfl); (case c4 => exact rfl)))
  intro g h₁ Xg Tg sg kept hsz F N
  (try k_extra "en")
  ((try k_extra "rf"); (repeat' (first | (k_extra "wb") | ((k_extra "lC"); (k_extra "wo")))))
  rename News _ _ _ _ => N
  rename Fr _ _ _ _ => F
  have lLw : @LT.lt Nat _ Lw s.heap.objs.size := Heap.lt_size hL
  show wpAny _ _ (call (Value.ref 911) [Value.str x t] [(Str.ofString "posix", Value.bool true)]) _ _ _
  k_dflt (refine' call_cls F Xg N ?k4 ?k5 ?k6 ?_; (case k4 => k_is); (case k5 => k_is); (case k6 => k_is))
  intro q dx h1 F1 N1 l1 l2
  have nn : ∀ b, s.heap.objs.size ≤ b → h₀.get? b = none := fun b hb => by
    cases e : h₀.get? b with
    | none => rfl
    | some o => exact absurd (Heap.lt_size (st₀ _ _ e)) (Nat.not_lt.mpr hb)
  have g0 : ∀ b, g.get? b = none → h₀.get? b = none := fun b hb => by
    cases e : h₀.get? b with
    | none => rfl
    | some o => rw [sg _ _ e] at hb; cases hb
  refine ct_linit X T (fun b o e => F1.keep b o (sg b o e)) (Nat.lt_of_le_of_lt (Nat.add_le_add_right (Nat.le_of_eq (rfl : _ = A.depth + 1 + 1)) 30) (by (first | exact (ch1 41 0 33 0 hroom (Eq.refl true)) | omega))) x t q dx (N1 _ (.head _)).1 (N1 _ (.tail _ (.head _))).1 l2 (g0 _ (N1 _ (.head _)).2.2) (g0 _ (N1 _ (.tail _ (.head _))).2.2) ?_
  intro h2 tk2 qs ds d1 d2 u1 u2 u3 v1 v3 c1 c2 c3 c4 kp hds l3 l4 l5 e1 e2 e3 e4 e5 e6
  obtain ⟨kk, e6⟩ := e6
  have hds' : h1.objs.size ≤ ds := hds
  have w2 : ∀ a ∈ [q, dx], a ≠ s.heap.objs.size ∧ g.get? a = none := List.forall_mem_cons.mpr ⟨(N1 _ (.head _)).2, List.forall_mem_cons.mpr ⟨(N1 _ (.tail _ (.head _))).2, List.forall_mem_nil _⟩⟩
  have F2 : Fr g s.heap.objs.size h2 _ := fr_kept F1 kp w2
  have lLd : @LT.lt Nat _ Lw dx := l1 _ (.head _)
  have nLw : Lw ∉ [q, dx] := nmc (Nat.ne_of_lt (Nat.lt_trans lLd l2)) (nmc (Nat.ne_of_lt lLd) List.not_mem_nil)
  have N2 := news_get N1 (.head _) e1 (news_get N1 (.tail _ (.head _)) e6 (news_new F1 (Nat.le_trans hds' (Nat.le_of_lt l3)) e2 (news_new F1 hds' e3 (news_new F1 (Nat.le_trans hds' (Nat.le_of_lt (Nat.lt_trans l3 l4))) e4 (news_new F1 (Nat.le_trans hds' (Nat.le_of_lt (Nat.lt_trans l3 (Nat.lt_trans l4 l5)))) e5 (news_get N1 (.tail _ (.tail _ (.head _))) (kp _ _ nLw (N1 _ (.tail _ (.tail _ (.head _)))).1) News.nil))))))
  have lqd : @LT.lt Nat _ q ds := Nat.lt_of_lt_of_le (Heap.lt_size (N1 _ (.head _)).1) hds'
  have l2' : @LT.lt Nat _ dx q := l2
  have ne1 : @Ne Nat q dx := Nat.ne_of_gt l2'
  have ne2 : @Ne Nat ds dx := Nat.ne_of_gt (Nat.lt_trans l2' lqd)
  have ne3 : @Ne Nat qs dx := Nat.ne_of_gt (Nat.lt_trans l2' (Nat.lt_trans lqd l3))
  have ne4 : @Ne Nat d1 dx := Nat.ne_of_gt (Nat.lt_trans l2' (Nat.lt_trans lqd (Nat.lt_trans l3 l4)))
  have ne5 : @Ne Nat d2 dx := Nat.ne_of_gt (Nat.lt_trans l2' (Nat.lt_trans lqd (Nat.lt_trans l3 (Nat.lt_trans l4 l5))))
  have ne6 : @Ne Nat Lw dx := Nat.ne_of_lt lLd
  have l3' : @LT.lt Nat _ ds qs := l3
  have l4' : @LT.lt Nat _ qs d1 := l4
  have l5' : @LT.lt Nat _ d1 d2 := l5
  have hq0 := N1 _ (.head _)
  have hdx0 := N1 _ (.tail _ (.head _))
  have lsd : s.heap.objs.size ≤ ds := Nat.le_trans (by obtain ⟨oL, _, _, hL, _⟩ := F1.ns; exact Nat.le_of_lt (Heap.lt_size hL)) hds'
  clear F N F1 N1 kp hds
  (try dsimp only [InitBack])
  (try refine ⟨rfl, ?_⟩)
  (try dsimp only)
  (try refine handed_on rfl ?_)
  (try dsimp only)
  ((try k_extra "rf"); (repeat' (first | (k_extra "wb") | ((k_extra "lTy"); (k_extra "wo")))))
  rename News _ _ _ _ => N
  rename Fr _ _ _ _ => F
  have g1 : ∀ b o, b ∉ [Lw] → s.heap.get? b = some o → g.get? b = some o := fun b o hb e => kept g (fun _ _ e => e) b o hb e
  have nb : ∀ b o, b ∉ [Lw] → s.heap.get? b = some o → b ≠ s.heap.objs.size ∧ b ∉ [q, dx, qs, ds, d1, d2] := by
    intro b o hb e
    refine ⟨Nat.ne_of_lt (Heap.lt_size e), fun m => ?_⟩
    have e' := g1 b o hb e
    exact some_none e' ((fmc (N _ (.head _)).2.2 (fmc (N _ (.tail _ (.head _))).2.2 (fmc (N _ (.tail _ (.tail _ (.head _)))).2.2 (fmc (N _ (.tail _ (.tail _ (.tail _ (.head _))))).2.2 (fmc (N _ (.tail _ (.tail _ (.tail _ (.tail _ (.head _)))))).2.2 (fmc (N _ (.tail _ (.tail _ (.tail _ (.tail _ (.tail _ (.head _))))))).2.2 (List.forall_mem_nil _)))))) : ∀ a ∈ [q, dx, qs, ds, d1, d2], g.get? a = none) b m)
  refine hideL ?_; intro gg1
  obtain ⟨oF, esF, epF, hFg, hFd, hFr⟩ := F.ns
  k_unfold
  have one32 : one 32 = Str.ofString " " := by decide +kernel
  have nFR : ∀ L ∈ [Lw, s.heap.objs.size], L ∉ [q, dx, qs, ds, d1, d2] := by
    refine fmc ?_ (fmc ?_ (List.forall_mem_nil _))
    · refine nmc ?_ (nmc ?_ (nmc ?_ (nmc ?_ (nmc ?_ (nmc ?_ (List.not_mem_nil)))))) <;> (refine Nat.ne_of_lt ?_; first | assumption | exact Nat.lt_trans (by assumption) l2 | exact Nat.lt_of_lt_of_le (by assumption) (by assumption) | exact Nat.lt_trans (Nat.lt_of_lt_of_le (by assumption) (by assumption)) l3 | exact Nat.lt_trans (Nat.lt_of_lt_of_le (by assumption) (by assumption)) (Nat.lt_trans l3 l4) | exact Nat.lt_trans (Nat.lt_of_lt_of_le (by assumption) (by assumption)) (Nat.lt_trans l3 (Nat.lt_trans l4 l5)) | omega)
    · exact nmc (Ne.symm (N _ (.head _)).2.1) (nmc (Ne.symm (N _ (.tail _ (.head _))).2.1) (nmc (Ne.symm (N _ (.tail _ (.tail _ (.head _)))).2.1) (nmc (Ne.symm (N _ (.tail _ (.tail _ (.tail _ (.head _))))).2.1) (nmc (Ne.symm (N _ (.tail _ (.tail _ (.tail _ (.tail _ (.head _)))))).2.1) (nmc (Ne.symm (N _ (.tail _ (.tail _ (.tail _ (.tail _ (.tail _ (.head _))))))).2.1) (List.not_mem_nil))))))
  refine list_lex X T (fun b o e => F.keep b o (sg b o e)) (by first | exact roomd hroom rfl | exact room2 (j := 1) hroom rfl | (simp only [depth_deeper]; omega)) x t hx hok ⟨l2, lqd, l3, l4, l5, g0 _ (N _ (.head _)).2.2, g0 _ (N _ (.tail _ (.head _))).2.2, g0 _ (N _ (.tail _ (.tail _ (.head _)))).2.2, g0 _ (N _ (.tail _ (.tail _ (.tail _ (.head _))))).2.2, g0 _ (N _ (.tail _ (.tail _ (.tail _ (.tail _ (.head _)))))).2.2, g0 _ (N _ (.tail _ (.tail _ (.tail _ (.tail _ (.tail _ (.head _))))))).2.2⟩ (outer := [_, env₀]) (FR := [Lw, s.heap.objs.size]) ht hws
    ⟨(N _ (.head _)).1, ⟨_, c2, _, _, _, ⟨_, by rw [if_neg Bool.false_ne_true, one32]; exact (N _ (.tail _ (.head _))).1⟩⟩, (N _ (.tail _ (.tail _ (.head _)))).1, ⟨_, _, _, _, _, (N _ (.tail _ (.tail _ (.tail _ (.head _))))).1⟩, (N _ (.tail _ (.tail _ (.tail _ (.tail _ (.head _)))))).1, (N _ (.tail _ (.tail _ (.tail _ (.tail _ (.tail _ (.head _))))))).1⟩
    ⟨hh, Around.frames_deeper hfr, ⟨(fun z => ScopeKind.noConfusion z), ⟨_, oF, rfl, hideAll_none _ (.tail _ (.head _)), hFg, fun vs z => by rw [hFd] at z; cases z⟩, hkm, ⟨Lw, oL, hf, hideAll_none _ (.head _), (N _ (.tail _ (.tail _ (.tail _ (.tail _ (.tail _ (.tail _ (.head _)))))))).1, hLd⟩, trivial⟩, ?_, nFR⟩ ?_ ?_
  · refine List.forall_mem_cons.mpr ⟨fun L e => ?_, List.forall_mem_cons.mpr ⟨fun L e => ?_, List.forall_mem_nil _⟩⟩
    · obtain rfl := Option.some.inj (e : some s.heap.objs.size = some L)
      exact .tail _ (.head _)
    · rw [hf] at e
      obtain rfl := Option.some.inj e
      exact .head _
  · exact List.forall_mem_cons.mpr ⟨Heap.lt_size (N _ (.tail _ (.tail _ (.tail _ (.tail _ (.tail _ (.tail _ (.head _)))))))).1, List.forall_mem_cons.mpr ⟨Heap.lt_size hFg, List.forall_mem_nil _⟩⟩
  · intro h'' tk'' c l kp sl hD hl
    obtain ⟨sl', hsl⟩ := sl Lw (.head _) oL (N _ (.tail _ (.tail _ (.tail _ (.tail _ (.tail _ (.tail _ (.head _)))))))).1 hLd
    refine ret h'' tk'' _ c l sl' (fun b o hb e => kp b o (fun m => ?_) (kept _ F.keep b o hb e)) hsl hD (Nat.le_of_lt (Heap.lt_size hFg)) hl
    have := nb b o hb e
    rcases List.mem_append.mp m with m | m
    · rcases List.mem_cons.mp m with m | m
      · exact hb (m ▸ .head _)
      · exact this.1 (List.mem_singleton.mp m)
    · exact this.2 m
end TC12
section TD3
open PySem PySem.W PyProof.Rows PySem.Calls Builtin
set_option maxHeartbeats 4000000

theorem entry_search : entryFor table "re.Pattern.search" = some Builtin.«re.Pattern.search» := entryFor_of_tree (by kernel_rfl)
theorem plain_search : plainId "re.Pattern.search" = true := by decide +kernel

theorem rules_ {prog : Program} {w : World} {A : Around} {Q : Unit → Shared → Prop} {E : Value → Shared → Prop} {s : Shared} (f : Nat → Bool) (g : Nat → String) : ∀ l : List Nat, Q () s → wpAny (model prog w) A (forIn l () (fun i _ => if f i = true then (do rule (g i); pure (ForInStep.yield ())) else pure (ForInStep.yield ()))) Q E s
  | [], h => wpAny_pure h
  | i :: l, h => by
    rw [List.forIn_cons]
    refine wpAny_bind ?_
    split
    · exact wpAny_bind (wpAny_rule (wpAny_pure (rules_ f g l h)))
    · exact wpAny_pure (rules_ f g l h)

theorem drive_ {prog : Program} {w : World} {A : Around} {Q : Sre.M → Shared → Prop} {E : Value → Shared → Prop} {s : Shared} {m : Sre.M} {n : Nat} (hn : 0 < n) (ho : (m.runFor 4).outcome.isSome = true) (h : Q (m.runFor 4) s) : wpAny (model prog w) A (Re.reDrive n m) Q E s := by
  refine hideL ?_; intro gg1
  obtain ⟨k, rfl⟩ : ∃ k, n = k + 1 := ⟨n - 1, by (first | exact (Nat.le_antisymm (lin1 2 [_, _] 0 (.v 0) (.a (.v 1) (.k 1)) 1 (.v 0) (.a (.v 1) (.k 1)) (Nat.le_add_of_sub_le (Nat.le_refl _)) rfl (Eq.refl true)) (lin1 2 [_, _] 0 (.a (.v 0) (.k 1)) (.v 1) 1 (.a (.v 0) (.k 1)) (.v 1) (Nat.le_of_eq (Nat.sub_add_cancel (lin1 1 [_] 0 (.k 1) (.v 0) 1 (.a (.k 0) (.k 1)) (.v 0) hn rfl (Eq.refl true)))) rfl (Eq.refl true))) | omega)⟩
  k_unfold
  unfold Re.reDrive
  show wpAny _ _ (if (m.runFor 4).outcome.isSome = true then pure (m.runFor 4) else _) _ _ _
  rw [if_pos ho]
  exact wpAny_pure h

theorem ct_find {w : World} {A : Around} {Q : Value → Shared → Prop} {E : Value → Shared → Prop} {s : Shared}
    (X : (Mine.top.heap_1_39 w.params).In s.heap) (x : Str) (t : Tok) (hx : x.length < 100000) (hne : x.length ≠ 0)
    (ret0 : (∀ c ∈ x.cps.toList, bad c = false) → Q .none s)
    (ret1 : (∃ c ∈ x.cps.toList, bad c = true) → ∀ h' a, Stays s.heap h' → Q (.ref a) { s with heap := h' }) :
    wpAny (model PySem.Challenge.rw_aa0007_01.row.prog w) A (call (.ref 924) [.str x t]) Q E s := by
  revert X; k_fill; intro X
  k_dflt (have h1 := X 924 _ (by k_is))
  refine wpAny_call (codeAny_of_tree ?_)
  show wpAny _ _ (callAny (.ref 924) ⟨[.str x t], []⟩) _ _ _
  unfold callAny
  refine wpAny_bind (wpAny_load h1 ?_)
  have hck : Looks (model PySem.Challenge.rw_aa0007_01.row.prog w) s.heap (checkBoundCall "re.Pattern.search" ⟨[.ref 179, .str x t], []⟩) () := by rw [PySem.W.Fast.te2380090244228891947]; exact Looks.of_peek X (by kernel_rfl)
  show wpAny _ _ (checkBoundCall "re.Pattern.search" ⟨[.ref 179, .str x t], []⟩ >>= fun _ => again (.builtin "re.Pattern.search" ⟨[.ref 179, .str x t], []⟩)) _ _ _
  with_reducible refine wpAny_bind ?_
  with_reducible refine hck.at ?_
  refine wpAny_pure (a := PySem.Fin.again (.builtin "re.Pattern.search" ⟨[.ref 179, .str x t], []⟩)) ⟨plainId_quiet plain_search _, codeAny_builtin entry_search ?_⟩
  rw [Around.under_plainId plain_search _]
  unfold Builtin.«re.Pattern.search»
  have ht : Looks (model PySem.Challenge.rw_aa0007_01.row.prog w) s.heap (Re.reTarget "re.Pattern.search" "search" ⟨[.ref 179, .str x t], []⟩) { pattern := .ref 179, string := .str x t, code := reCode, text := x.cps, kind := 0, groups := 0, pos := min 0 x.cps.size, lim := min (2 ^ 63 - 1) x.cps.size } := Looks.of_peek X (by kernel_rfl)
  refine wpAny_bind (ht.at ?_)
  have hl : min (2 ^ 63 - 1) x.cps.size = x.cps.size := Nat.min_eq_right (Nat.le_trans (Nat.le_of_lt hx) (by decide))
  rw [Nat.zero_min, hl]
  unfold Re.reAnswer Re.reRunToEnd
  (try dsimp only)
  by_cases hb : ∃ c ∈ x.cps.toList, bad c = true
  · obtain ⟨c, hc, hbc⟩ := hb
    refine hideL ?_; intro gg2
    obtain ⟨i, hi, rfl⟩ := List.getElem_of_mem hc
    k_unfold
    have hi' : i < x.cps.size := by simpa using hi
    have hs := search_some x.cps ⟨i, hi', by rw [Array.getD_eq_getD_getElem?, Array.getElem?_eq_getElem hi']; simpa using hbc⟩
    refine wpAny_bind (wpAny_bind (drive_ (by decide) (by rw [hs.1]; rfl) (wpAny_bind (rules_ _ _ _ ?_))))
    rw [hs.1]
    refine wpAny_pure ?_
    (try dsimp only)
    unfold Re.reNewMatch
    simp only [List.range_zero, List.flatMap_nil, List.any_nil, Bool.false_eq_true, if_false]
    unfold newTuple newFields
    refine wpAny_bind (wpAny_bind (wpAny_newObj_type ?_ (by size_fits)))
    refine wpAny_newObj_type ?_ (by size_fits)
    exact wpAny_pure (ret1 ⟨_, hc, hbc⟩ _ _ fun b o e => Heap.get?_push_of_some _ (Heap.get?_push_of_some _ e))
  · have hn : ∀ c ∈ x.cps.toList, bad c = false := fun c hc => by
      cases h : bad c with
      | false => rfl
      | true => exact absurd ⟨c, hc, h⟩ hb
    have hs := search_none x.cps hne fun i hi => by
      rw [Array.getD_eq_getD_getElem?, Array.getElem?_eq_getElem hi]
      exact hn _ (by simp)
    refine wpAny_bind (wpAny_bind (drive_ (by decide) (by rw [hs]; rfl) (wpAny_bind (rules_ _ _ _ ?_))))
    rw [hs]
    exact wpAny_pure (wpAny_pure (ret0 hn))
end TD3
section TD4
open PySem PySem.W PyProof.Rows PySem.Calls
set_option maxHeartbeats 8000000

theorem callWith_B {M : Model} {A : Around} {E : Value → Shared → Prop} {s : Shared} {K : Frag} {env : Env} {pos : Pos} {a : Addr} {first : List Value} {Q : Value → Shared → Prop} {h₀ : Heap} {e : Expr} {rest : List Expr} {vs : Array Value} (_X : K.In h₀) (hk : K.lookup a = some { cls := .type "builtin_function_or_method", data := .fields vs })
    (h : wpAny M A (spliced (backTo pos (starEach (e :: rest) env))) (fun vs s₁ => K.In s₁.heap ∧ wpAny M A (call (.ref a) (first ++ vs)) Q E s₁) E s)
    (he : starEach (e :: rest) env = (false, eval e env) :: starEach rest env) (hplain : (backTo pos (starEach rest env)).any (·.1) = false) :
    wpAny M A (callWith pos (.ref a) first (backTo pos (starEach (e :: rest) env)) []) Q E s := by
  rw [he] at h ⊢
  exact callWith_of (P := fun h => K.In h) (by show ((false || (backTo pos (starEach rest env)).any (·.1)) || false) = false; rw [hplain]; rfl) (fun h X => ⟨.machine, .inr (.inl rfl), (Looks.ld (part := none) (X _ _ hk)).andThen .now⟩) (evalArgs_plain h)

theorem ct_quote {w : World} {A : Around} {Q : Value → Shared → Prop} {s : Shared} {p : Program} {loose : List Str} {mean : ExcName → Option Value} {mg mb : Str → Option Value}
    (X : (Mine.top.heap_1_39 w.params).In s.heap) (T : Top p loose mean mg mb s.heap) (hroom : A.depth + 5 < recursionLimit) (x : Str) (t : Tok) (hx : x.length < 1000) (hne : x.length ≠ 0)
    (ret : ∀ h' tk t', Stays s.heap h' → Q (.str (quoteS x) t') { s with heap := h', toks := tk }) :
    wpAny (model PySem.Challenge.rw_aa0007_01.row.prog w) A (call (.ref 931) [.str x t]) Q noE s := by
  revert X; k_fill; intro X
  k_dflt (refine' enterK (binds := [(Str.ofString "s", Value.str x t)]) ?k1 ?k2 ?k6 ?k7 ?k8 ?k9 ?kB ?_ ?c5 ?c2 ?c3 ?c4; ((case k1 => assumption); (case k2 => exact Top.nolimit (by assumption)); (case k6 => k_is); (case k7 => k_is); (case k8 => (first | exact (ch1 6 0 1 0 hroom (Eq.refl true)) | omega)); (case k9 => exact BindsTo.of_eq rfl); (case c5 => decide); (case kB => exact locs rfl); (case c2 => exact rfl); (case c3 => exact rfl); (case c4 => exact rfl)))
  intro h₁ F
  (try k_extra "en")
  have N : News s.heap s.heap.objs.size h₁ [] := News.nil
  have hrl := replace_q_len x
  have hn1 : ¬ ((!((x.length : Int) != 0)) = true) := by simp; (first | exact (Nat.ne_of_gt (lin1 1 [_] 0 (.a (.k 0) (.k 1)) (.v 0) 1 (.k 1) (.v 0) (Nat.pos_of_ne_zero hne) rfl (Eq.refl true))) | omega)
  ((try k_extra "rf"); (repeat' (first | (k_extra "wb") | ((k_extra "lC"); (k_extra "wo")))))
  rename News _ _ _ _ => N
  rename Fr _ _ _ _ => F
  k_dflt (refine' callWith_B (he := by rfl) (hplain := by rfl) X ?k2 ?_; (case k2 => k_is))
  ((try k_extra "rf"); (repeat' (first | (k_extra "wb") | ((k_extra "lC"); (k_extra "wo")))))
  rename News _ _ _ _ => N
  rename Fr _ _ _ _ => F
  refine ct_find (X.keeps F.keep) x t (by (first | exact (ch1 1 1000 1 100000 hx (Eq.refl true)) | omega)) hne (fun hall => ?_) (fun hex h2 a st2 => ?_)
  · have e : quoteS x = x := by
      unfold quoteS
      rw [if_neg]
      intro z
      refine hideL ?_; intro gg1
      obtain ⟨c, hc, hb⟩ := List.any_eq_true.mp z
      k_unfold
      rw [hall c hc] at hb; cases hb
    ((try k_extra "rf"); (repeat' (first | (k_extra "wb") | (k_extra "wo"))))
    (try dsimp only)
    rename News _ _ _ _ => N
    rename Fr _ _ _ _ => F
    have := ret _ tk t F.keep
    rw [e] at this
    exact this
  · have F2 := fr_stay F st2
    have N2 := news_stay N st2
    clear F N
    have e : quoteS x = _ := if_pos (List.any_eq_true.mpr hex)
    rw [e] at ret
    ((try k_extra "rf"); (repeat' (first | (k_extra "wb") | (k_extra "wo"))))
    (try dsimp only)
    rename News _ _ _ _ => N
    rename Fr _ _ _ _ => F
    exact ret _ _ _ F.keep
end TD4
section TE1
open PySem PySem.W PyProof.Rows PySem.Calls
set_option maxHeartbeats 8000000

theorem ct_fspath {w : World} {A : Around} {Q : Value → Shared → Prop} {s : Shared} {p : Program} {loose : List Str} {mean : ExcName → Option Value} {mg mb : Str → Option Value}
    (X : (Mine.top.heap_1_39 w.params).In s.heap) (T : Top p loose mean mg mb s.heap) (hroom : A.depth + 5 < recursionLimit) (x : Str) (t : Tok)
    (ret : ∀ h' tk, Stays s.heap h' → Q (.str x t) { s with heap := h', toks := tk }) :
    wpAny (model PySem.Challenge.rw_aa0007_01.row.prog w) A (call (.ref 117) [.str x t]) Q noE s := by
  revert X; k_fill; intro X
  k_dflt (refine' enterK (binds := [(Str.ofString "path", Value.str x t)]) ?k1 ?k2 ?k6 ?k7 ?k8 ?k9 ?kB ?_ ?c5 ?c2 ?c3 ?c4; ((case k1 => assumption); (case k2 => exact Top.nolimit (by assumption)); (case k6 => k_is); (case k7 => k_is); (case k8 => (first | exact (ch1 6 0 1 0 hroom (Eq.refl true)) | omega)); (case k9 => exact BindsTo.of_eq rfl); (case c5 => decide); (case kB => exact locs rfl); (case c2 => exact rfl); (case c3 => exact rfl); (case c4 => exact rfl)))
  intro h₁ F
  (try k_extra "en")
  have N : News s.heap s.heap.objs.size h₁ [] := News.nil
  ((try k_extra "rf"); (repeat' (first | (k_extra "wb") | (k_extra "wo"))))
  rename News _ _ _ _ => N
  rename Fr _ _ _ _ => F
  refine issub_str (N _ (.head _)).1 ?_
  ((try k_extra "rf"); (repeat' (first | (k_extra "wb") | (k_extra "wo"))))
  (try dsimp only)
  rename News _ _ _ _ => N
  rename Fr _ _ _ _ => F
  exact ret _ _ F.keep

theorem ct_splitroot {w : World} {A : Around} {Q : Value → Shared → Prop} {s : Shared} {p : Program} {loose : List Str} {mean : ExcName → Option Value} {mg mb : Str → Option Value}
    (X : (Mine.top.heap_1_39 w.params).In s.heap) (T : Top p loose mean mg mb s.heap) (hroom : A.depth + 10 < recursionLimit) (x : Str) (t : Tok) (hx : x.length < 1000)
    (h1 : ¬ ((Txt.slice x none (some 1) != Str.ofString "/") = true)) (h2 : (Txt.slice x (some 1) (some 2) != Str.ofString "/") = true)
    (ret : ∀ h' tk D t1 t2 t3, Stays s.heap h' → h'.get? D = some { cls := .type "tuple", data := .seq #[.str (Str.ofString "") t1, .str (Str.ofString "/") t2, .str (Txt.slice x (some 1) none) t3] } → s.heap.get? D = none → Q (.ref D) { s with heap := h', toks := tk }) :
    wpAny (model PySem.Challenge.rw_aa0007_01.row.prog w) A (call (.ref 152) [.str x t]) Q noE s := by
  revert X; k_fill; intro X
  k_dflt (refine' enterK (binds := [(Str.ofString "p", Value.str x t)]) ?k1 ?k2 ?k6 ?k7 ?k8 ?k9 ?kB ?_ ?c5 ?c2 ?c3 ?c4; ((case k1 => assumption); (case k2 => exact Top.nolimit (by assumption)); (case k6 => k_is); (case k7 => k_is); (case k8 => (first | exact (ch1 11 0 1 0 hroom (Eq.refl true)) | omega)); (case k9 => exact BindsTo.of_eq rfl); (case c5 => decide); (case kB => exact locs rfl); (case c2 => exact rfl); (case c3 => exact rfl); (case c4 => exact rfl)))
  intro h₁ F
  (try k_extra "en")
  have N : News s.heap s.heap.objs.size h₁ [] := News.nil
  ((try k_extra "rf"); (repeat' (first | (k_extra "wb") | ((k_extra "lC"); (k_extra "wo")))))
  (rename News _ _ _ _ => N; rename Fr _ _ _ _ => F; refine ct_fspath (X.keeps F.keep) (T.keeps F.keep) (by first | exact roomd hroom rfl | exact room2 (j := 1) hroom rfl | (simp only [depth_deeper]; omega)) _ _ ?_; intro h2 tk2 st2; have F2 := fr_stay F st2; have N2 := news_stay N st2; clear F N st2)
  ((try k_extra "rf"); (repeat' (first | (k_extra "wb") | (k_extra "wo"))))
  (try dsimp only)
  rename News _ _ _ _ => N
  rename Fr _ _ _ _ => F
  exact ret _ _ _ _ _ _ F.keep (N _ (.head _)).1 (N _ (.head _)).2.2
end TE1
section TE2
open PySem PySem.W PyProof.Rows PySem.Calls
set_option maxHeartbeats 8000000

noncomputable abbrev npM (x : Str) (t : Tok) (x2 : Str) (Dn Dc : Addr) (t1 t2 t3 ta tb tc : Tok) : Str → Option Value := fun y =>
  if y = Str.ofString "new_comps" then some (.ref Dn) else if y = Str.ofString "comps" then some (.ref Dc) else if y = Str.ofString "path" then some (.str x2 t3) else if y = Str.ofString "initial_slashes" then some (.str (Str.ofString "/") t2)
  else if y = Str.ofString "_" then some (.str (Str.ofString "") t1) else if y = Str.ofString "dotdot" then some (.str (Str.ofString "..") ta) else if y = Str.ofString "dot" then some (.str (Str.ofString ".") tb) else if y = Str.ofString "sep" then some (.str (Str.ofString "/") tc)
  else if y = Str.ofString "path" then some (.str x t) else List.lookup y [(Str.ofString "path", Value.str x t)].reverse

inductive NpI (M : Str → Option Value) (Dn : Addr) (Wd : List (Addr × Obj)) (norm : List Str → List Str) (cs : List Str) (i : Nat) (m : Str → Option Value) (n : List (Addr × Obj)) : Prop where
  | mk (c : Option Value) (ln : List (Str × Tok)) (nn : Nat) (em : m = fun y => if y = Str.ofString "comp" then c else M y) (en : n = (Dn, W.listOf (strValues ln).toArray nn) :: Wd) (hl : ln.map (·.1) = norm (cs.take i))
theorem ct_normpath {w : World} {A : Around} {Q : Value → Shared → Prop} {s : Shared} {p : Program} {loose : List Str} {mean : ExcName → Option Value} {mg mb : Str → Option Value}
    (X : (Mine.top.heap_1_39 w.params).In s.heap) (T : Top p loose mean mg mb s.heap) (hroom : A.depth + 20 < recursionLimit) (hh : A.handled = none) (x : Str) (t : Tok) (hx : x.length < 1000) (hne : x.length ≠ 0)
    (hp1 : ¬ ((Txt.slice x none (some 1) != Str.ofString "/") = true)) (hp2 : (Txt.slice x (some 1) (some 2) != Str.ofString "/") = true) {cs : List Str} (hcs : Txt.split (Txt.slice x (some 1) none) (Str.ofString "/") = cs) (hlen : cs.length < 100) (hcl : ∀ c ∈ cs, c.length ≤ 1000) (hdd : ∀ i, cs[i]? = some (Str.ofString "..") → normS (cs.take i) = [Str.ofString "b"])
    (ret : ∀ h' tk t', Stays s.heap h' → Q (.str (Str.ofString "/" ++ Txt.join (Str.ofString "/") (normS cs)) t') { s with heap := h', toks := tk }) :
    wpAny (model PySem.Challenge.rw_aa0007_01.row.prog w) A (call (.ref 159) [.str x t]) Q noE s := by
  refine aro1 hh hroom ?_
  have hcs' : True → _ := fun _ => hcs
  clear hcs hh hroom
  intro ad af ag au hroom
  revert X; k_fill; intro X
  k_dflt (refine' enterK (binds := [(Str.ofString "path", Value.str x t)]) ?k1 ?k2 ?k6 ?k7 ?k8 ?k9 ?kB ?_ ?c5 ?c2 ?c3 ?c4; ((case k1 => assumption); (case k2 => exact Top.nolimit (by assumption)); (case k6 => k_is); (case k7 => k_is); (case k8 => (try dsimp only); (first | exact (ch1 21 0 1 0 hroom (Eq.refl true)) | exact (ch1 26 0 1 0 hroom (Eq.refl true)) | exact (ch1 16 0 1 0 hroom (Eq.refl true)) | omega)); (case k9 => exact BindsTo.of_eq rfl); (case c5 => decide); (case kB => exact locs rfl); (case c2 => exact rfl); (case c3 => exact rfl); (case c4 => exact rfl)))
  intro h₁ F
  (try k_extra "en")
  have N : News s.heap s.heap.objs.size h₁ [] := News.nil
  have hn1 : ¬ ((!((x.length : Int) != 0)) = true) := by simp; (first | exact (Nat.ne_of_gt (lin1 1 [_] 0 (.a (.k 0) (.k 1)) (.v 0) 1 (.k 1) (.v 0) (Nat.pos_of_ne_zero hne) rfl (Eq.refl true))) | omega)
  ((try k_extra "rf"); (repeat' (first | (k_extra "wb") | ((k_extra "lC"); (k_extra "wo")))))
  (rename News _ _ _ _ => N; rename Fr _ _ _ _ => F; refine ct_fspath (X.keeps F.keep) (T.keeps F.keep) (by show ad + 1 + 5 < recursionLimit; first | exact room hroom rfl | exact room2 hroom rfl | exact room3 hroom rfl | omega) _ _ ?_; intro h2 tk2 st2; have F2 := fr_stay F st2; have N2 := news_stay N st2; clear F N st2)
  ((try k_extra "rf"); (repeat' (first | (k_extra "wb") | ((k_extra "lC"); (k_extra "wo")))))
  rename News _ _ _ _ => N
  rename Fr _ _ _ _ => F
  refine ct_splitroot (X.keeps F.keep) (T.keeps F.keep) (by show ad + 1 + 10 < recursionLimit; first | exact room hroom rfl | exact room2 hroom rfl | exact room3 hroom rfl | omega) _ _ hx hp1 hp2 ?_
  intro h2' tk2 D t1 t2 t3 st2 hD nD
  have F2 := fr_stay F st2
  have N2 := news_fresh F nD hD (news_stay N st2)
  clear F N st2
  have hsl : (Txt.slice x (some 1) none).length ≤ x.length := Txt.slice_le _ _ _
  ((try k_extra "rf"); (repeat' (first | (k_extra "v0") | (k_extra "wn") | ((k_extra "ge"); (k_extra "ve")) | ((k_extra "gx"); (k_extra "lF"); (k_extra "vx")) | (k_extra "rq") | ((k_extra "lF"); (k_extra "wo")))))
  rename News _ _ _ _ => N
  rename Fr _ _ _ _ => F
  rename (List.map _ _ = Txt.split _ _) => hl0
  rename List (Str × Tok) => l
  have hl := hl0.trans (hcs' trivial)
  clear hl0 hcs'
  rename @LT.lt Nat _ _ _ ∧ @LT.lt Nat _ _ _ => l1
  rename Heap => hN
  obtain ⟨Dn, Dc, ta, tb, tc, lc, ld, F1, N1⟩ : ∃ Dn Dc ta tb tc, @LT.lt Nat _ Dc Dn ∧ @LT.lt Nat _ D Dn ∧ Fr s.heap s.heap.objs.size hN (npM x t (Txt.slice x (some 1) none) Dn Dc t1 t2 t3 ta tb tc) ∧ News s.heap s.heap.objs.size hN [(Dn, W.listOf #[] 0), (Dc, { cls := .type "list", data := .seq (strValues l).toArray }),
    (D, { cls := .type "tuple", data := .seq #[.str (Str.ofString "") t1, .str (Str.ofString "/") t2, .str (Txt.slice x (some 1) none) t3] })] := ⟨_, _, _, _, _, l1.1, l1.2, F, N⟩
  clear F N
  have hlz : (strValues l).toArray.size = cs.length := by rw [← hl]; simp [strValues]
  refine for_list (hs := by intro _; rfl) (P := NpI (npM x t (Txt.slice x (some 1) none) Dn Dc t1 t2 t3 ta tb tc) Dn [(Dc, ({ cls := .type "list", data := .seq (strValues l).toArray } : Obj)), (D, ({ cls := .type "tuple", data := .seq #[.str (Str.ofString "") t1, .str (Str.ofString "/") t2, .str (Txt.slice x (some 1) none) t3] } : Obj))] normS cs) (l := Dc) (items := (strValues l).toArray) rfl rfl rfl F1 N1 ⟨none, [], 0, funext fun y => ?_, rfl, rfl⟩ ?_ ?_ ?_ ?_
  · by_cases a : y = Str.ofString "comp"
    · subst a; rfl
    · rw [if_neg a]
  · rintro i m n h hp1_4 _ Nh
    refine hideL ?_; intro gg1
    obtain ⟨c, ln, nn, rfl, rfl, _⟩ := hp1_4
    k_unfold
    exact Nh.isList (.tail _ (.head _))
  · ((try k_extra "rf"); (repeat' (first | (k_extra "wb") | (k_extra "wo"))))
  · rintro i v m n h tk I oI hv hp2_9 hI hne F N
    refine hideL ?_; intro gg2
    obtain ⟨c0, ln, nn, rfl, rfl, hln⟩ := hp2_9
    k_unfold
    replace F : Fr s.heap s.heap.objs.size h _ := F
    replace N : News s.heap s.heap.objs.size h _ := N
    dsimp only at F
    rw [same_name] at F
    have lI : @LT.lt Nat _ Dn I := hI _ _ (N1 _ (.head _)).1
    have ne1 : @Ne Nat I Dn := Nat.ne_of_gt lI
    have ne2 : @Ne Nat Dc Dn := Nat.ne_of_lt lc
    have ne3 : @Ne Nat D Dn := Nat.ne_of_lt ld
    have lI2 : @LT.lt Nat _ Dc I := hI _ _ (N1 _ (.tail _ (.head _))).1
    have lI3 : @LT.lt Nat _ D I := hI _ _ (N1 _ (.tail _ (.tail _ (.head _)))).1
    obtain ⟨c, u, hci, rfl⟩ : ∃ c u, cs[i]? = some c ∧ v = .str c u := by
      have hv' : (strValues l)[i]? = some v := by simpa using hv
      rw [strValues, List.getElem?_map] at hv'
      cases hg : l[i]? with
      | none => rw [hg] at hv'; cases hv'
      | some cu =>
        rw [hg] at hv'
        obtain ⟨c, u⟩ := cu
        refine ⟨c, u, ?_, (Option.some.inj hv').symm⟩
        rw [← hl, List.getElem?_map, hg]; rfl
    have htk : normS (cs.take (i + 1)) = normStep (normS (cs.take i)) c := by
      rw [← normS_snoc, List.take_succ, hci]; rfl
    have hlnz : (strValues ln).toArray.size ≤ 100 := by
      have h1 := congrArg List.length hln
      have h2 := normS_len (cs.take i)
      rw [List.length_take] at h2
      simp [strValues] at h1 ⊢; (first | exact (lin4 4 [_, _, _, _] 0 (.v 0) (.k 100) 1 (.a (.v 1) (.k 1)) (.k 100) 1 (.v 2) (.v 3) 1 (.v 0) (.v 2) 1 (.v 3) (.v 1) hlen h2 (Nat.le_of_eq h1) (Nat.min_le_right _ _) rfl (Eq.refl true)) | omega)
    have hneA : ∀ o : Obj, ∀ p ∈ [(Dn, o), (Dc, ({ cls := .type "list", data := .seq (strValues l).toArray } : Obj)), (D, ({ cls := .type "tuple", data := .seq #[.str (Str.ofString "") t1, .str (Str.ofString "/") t2, .str (Txt.slice x (some 1) none) t3] } : Obj))], p.1 ≠ I :=
      fun o => List.forall_mem_cons.mpr ⟨Nat.ne_of_lt lI, List.forall_mem_cons.mpr ⟨Nat.ne_of_lt lI2, List.forall_mem_cons.mpr ⟨Nat.ne_of_lt lI3, List.forall_mem_nil _⟩⟩⟩
    have zc : c.length ≤ 1000 := hcl c (List.mem_of_getElem? hci)
    have zc9 : (c.length : Int) < 9223372036854775808 := Int.ofNat_lt.mpr (Nat.lt_of_le_of_lt zc (by decide : (1000 : Nat) < 9223372036854775808))
    have hne0 : c.length ≠ 0 → c ≠ Str.ofString "" := fun z e => z (by rw [e]; rfl)
    by_cases hc0 : c.length = 0
    · have q1 : (!((c.length : Int) != 0)) = true := by rw [hc0]; rfl
      have e0 : c = Str.ofString "" := by
        obtain ⟨a⟩ := c
        have : a = #[] := Array.eq_empty_of_size_eq_zero hc0
        subst this; decide +kernel
      ((try k_extra "rf"); (repeat' (first | (k_extra "w1") | (k_end; (k_extra "lAn"); (k_extra "vn")) | (k_extra "rq") | (k_extra "wo"))))
      rename News _ _ _ _ => N
      rename Fr _ _ _ _ => F
      (try dsimp only)
      refine ⟨by simp, _, _, _, _, rfl, F, N, fun p hp => hne p hp, some (.str c u), ln, nn, rfl, rfl, ?_⟩
      rw [htk, hln, normStep, if_pos (.inl e0)]
    have q1 : ¬ ((!((c.length : Int) != 0)) = true) := by simp; (first | exact (Nat.ne_of_gt (lin1 1 [_] 0 (.a (.k 0) (.k 1)) (.v 0) 1 (.k 1) (.v 0) (Nat.pos_of_ne_zero hc0) rfl (Eq.refl true))) | omega)
    by_cases hc1 : c = Str.ofString "."
    · have q2 : (c == Str.ofString ".") = true := by rw [hc1]; exact beq_self_eq_true _
      ((try k_extra "rf"); (repeat' (first | (k_extra "w1") | (k_end; (k_extra "lAn"); (k_extra "vn")) | (k_extra "rq") | (k_extra "wo"))))
      rename News _ _ _ _ => N
      rename Fr _ _ _ _ => F
      (try dsimp only)
      refine ⟨by simp, _, _, _, _, rfl, F, N, fun p hp => hne p hp, some (.str c u), ln, nn, rfl, rfl, ?_⟩
      rw [htk, hln, normStep, if_pos (.inr hc1)]
    have q2 : ¬ ((c == Str.ofString ".") = true) := fun z => hc1 (eq_of_beq z)
    by_cases hc2 : c = Str.ofString ".."
    · have hb := hdd i (by rw [hci, hc2])
      rw [hb] at hln
      obtain ⟨ub, rfl⟩ : ∃ ub, ln = [(Str.ofString "b", ub)] := by
        cases ln with
        | nil => cases hln
        | cons a r =>
          refine hideL ?_; intro gg3
          obtain ⟨a1, a2⟩ := a
          obtain ⟨e1, e2⟩ := List.cons.inj hln
          obtain rfl : r = [] := List.map_eq_nil_iff.mp e2
          k_unfold
          exact ⟨a2, by rw [show a1 = Str.ofString "b" from e1]⟩
      have q3 : ¬ ((c != Str.ofString "..") = true) := by rw [hc2]; simp
      replace N : News s.heap s.heap.objs.size h [(I, oI), (Dn, W.listOf #[Value.str (Str.ofString "b") ub] nn), (Dc, _), (D, _)] := N
      ((try k_extra "rf"); (repeat' (first | (k_extra "w1") | (k_end; (k_extra "lAn"); (k_extra "vn")) | (k_extra "rq") | (k_extra "wo"))))
      rename News _ _ _ _ => N
      rename Fr _ _ _ _ => F
      refine ⟨.inl rfl, _, _, _, _, rfl, F, N, hneA _, some (.str c u), [], nn + 1, rfl, rfl, ?_⟩
      rw [htk, hb, normStep, if_neg (by rintro (e | e); exact hne0 hc0 e; exact hc1 e), if_pos hc2]; rfl
    · have q3 : (c != Str.ofString "..") = true := by simpa using hc2
      ((try k_extra "rf"); (repeat' (first | (k_extra "w1") | (k_end; (k_extra "lAn"); (k_extra "vn")) | (k_extra "rq") | (k_extra "wo"))))
      rename News _ _ _ _ => N
      rename Fr _ _ _ _ => F
      have e : (strValues (ln ++ [(c, u)])).toArray = (strValues ln).toArray.push (Value.str c u) := by simp [strValues]
      rw [← e] at N
      refine ⟨.inl rfl, _, _, _, _, rfl, F, N, hneA _, some (.str c u), ln ++ [(c, u)], nn + 1, rfl, rfl, ?_⟩
      rw [htk, ← hln, normStep, if_neg (by rintro (e | e); exact hne0 hc0 e; exact hc1 e), if_neg hc2, List.map_append]; rfl
  · rintro h tk m n F N hp4_6
    refine hideL ?_; intro gg4
    obtain ⟨c, ln, nn, rfl, rfl, hln⟩ := hp4_6
    k_unfold
    replace F : Fr s.heap s.heap.objs.size h _ := F
    replace N : News s.heap s.heap.objs.size h _ := N
    (try dsimp only at F)
    have hlnz : (strValues ln).toArray.size ≤ 100 := by
      have h1 := congrArg List.length hln
      have h2 := normS_len (cs.take (strValues l).toArray.size)
      rw [List.length_take] at h2
      simp [strValues] at h1 h2 ⊢; (first | exact (lin4 4 [_, _, _, _] 0 (.v 0) (.k 100) 1 (.a (.v 1) (.k 1)) (.k 100) 1 (.v 0) (.v 2) 1 (.v 2) (.v 3) 1 (.v 3) (.v 1) hlen (Nat.le_of_eq h1) h2 (Nat.min_le_right _ _) rfl (Eq.refl true)) | omega)
    have hfull : cs.take (strValues l).toArray.size = cs := by rw [hlz]; exact List.take_length
    rw [hfull] at hln
    have hmem : ∀ y ∈ normS cs, y.length ≤ 1000 := fun y hy => hcl y (normS_mem cs y hy)
    have hcnt : (normS cs).length ≤ 100 := Nat.le_trans (normS_len cs) (by (first | exact (ch1 1 100 0 100 hlen (Eq.refl true)) | omega))
    (try dsimp only)
    ((try k_extra "rf"); (repeat' (first | (k_extra "wb") | (k_extra "wo"))))
    rename News _ _ _ _ => N
    rename Fr _ _ _ _ => F
    refine SC.join (N.isList (.head _)) hln (joinOk_of_weight (wt_of (m := 100) hmem hcnt rfl) (by decide)) ?_
    intro tj kj
    have hjl : (Txt.join (Str.ofString "/") (normS cs)).length ≤ 200000 := join_cap len_slash hmem hcnt rfl
    have q5 : (((Str.ofString "/" ++ Txt.join (Str.ofString "/") (normS cs)).length : Int) != 0) = true := by
      have : (Str.ofString "/" ++ Txt.join (Str.ofString "/") (normS cs)).length = (Str.ofString "/").length + (Txt.join (Str.ofString "/") (normS cs)).length := Array.size_append
      rw [this, show (Str.ofString "/").length = 1 from by decide +kernel]
      simp; (first | exact (ch1 0 0 0 0 hi2 (Eq.refl true)) | exact (Nat.ne_of_gt (lin1 2 [_, _] 0 (.a (.k 0) (.k 1)) (.v 0) 1 (.a (.k 1) (.v 1)) (.v 0) (Nat.le_of_eq hpl.symm) rfl (Eq.refl true))) | exact (Nat.ne_of_gt (lin1 1 [_] 0 (.a (.k 0) (.k 1)) (.v 0) 1 (.k 1) (.v 0) (Nat.pos_of_ne_zero this) rfl (Eq.refl true))) | omega)
    ((try k_extra "rf"); (repeat' (first | (k_extra "wb") | (k_extra "wo"))))
    (try dsimp only)
    rename News _ _ _ _ => N
    rename Fr _ _ _ _ => F
    exact ret _ _ _ F.keep
end TE2
section TF5
open PySem PySem.W PyProof.Rows PySem.Calls
set_option maxHeartbeats 8000000

noncomputable def rstep (acc : List Str) (c : Str) : List Str := if c = Str.ofString "" ∨ c = Str.ofString "." then acc else acc ++ [c]
noncomputable def normR (l : List Str) : List Str := l.foldl rstep []
theorem normR_snoc (l : List Str) (c : Str) : normR (l ++ [c]) = rstep (normR l) c := by simp [normR]
theorem rstep_len (acc : List Str) (c : Str) : (rstep acc c).length ≤ acc.length + 1 := by
  unfold rstep
  split
  · (first | exact (ch1 1 0 1 0 z (Eq.refl true)) | exact (ch0 0 1 (Eq.refl true)) | exact (lin1 3 [_, _, _] 0 (.a (.v 0) (.v 1)) (.a (.v 2) (.v 0)) 1 (.v 1) (.v 2) ih rfl (Eq.refl true)) | exact (ch2 0 1 0 200 1 1000 (Nat.le_of_eq xl) hj (Eq.refl true)) | exact (Nat.ne_of_gt (lin1 2 [_, _] 0 (.a (.k 0) (.k 1)) (.v 0) 1 (.a (.v 1) (.k 1)) (.v 0) (Nat.le_of_eq xl.symm) rfl (Eq.refl true))) | exact (ch1 0 20 1 100 hl (Eq.refl true)) | omega)
  · rw [List.length_append, List.length_singleton]; (first | exact (ch0 1 1 (Eq.refl true)) | omega)
theorem foldR_len : ∀ (l : List Str) (acc : List Str), (l.foldl rstep acc).length ≤ acc.length + l.length
  | [], _ => Nat.le_refl _
  | c :: l, acc => by
    have := foldR_len l (rstep acc c)
    have := rstep_len acc c
    rw [List.foldl_cons, List.length_cons]; (lia)
theorem normR_len (l : List Str) : (normR l).length ≤ l.length := by
  have := foldR_len l []
  simpa [normR] using this
theorem foldR_mem : ∀ (l acc : List Str) (y : Str), y ∈ l.foldl rstep acc → y ∈ acc ∨ (y ∈ l ∧ y ≠ Str.ofString "")
  | [], acc, y, h => .inl h
  | c :: l, acc, y, h => by
    rw [List.foldl_cons] at h
    rcases foldR_mem l _ y h with h | h
    · unfold rstep at h
      split at h
      · exact .inl h
      · rename_i hc
        rcases List.mem_append.mp h with h | h
        · exact .inl h
        · have := List.mem_singleton.mp h
          subst this
          exact .inr ⟨.head _, fun e => hc (.inl e)⟩
    · exact .inr ⟨.tail _ h.1, h.2⟩
theorem normR_mem (l : List Str) (y : Str) (h : y ∈ normR l) : y ∈ l ∧ y ≠ Str.ofString "" := by
  rcases foldR_mem l [] y h with h | h
  · cases h
  · exact h
theorem rdots_ne : ¬ (Str.ofString ".." = Str.ofString "" ∨ Str.ofString ".." = Str.ofString ".") := by decide +kernel
theorem normR_dots : ∀ i, normR (List.replicate i (Str.ofString "..")) = List.replicate i (Str.ofString "..")
  | 0 => rfl
  | i + 1 => by
    rw [List.replicate_succ', normR_snoc, normR_dots i, rstep, if_neg rdots_ne]
noncomputable def npR (cs : List Str) : Str := if normR cs = [] then Str.ofString "." else Txt.join (Str.ofString "/") (normR cs)
theorem len0 {c : Str} (h : c.length = 0) : c = Str.ofString "" := by
  obtain ⟨a⟩ := c
  have : a = #[] := Array.eq_empty_of_size_eq_zero h
  subst this; decide +kernel
theorem join_len0 {l : List Str} (h : ∀ y ∈ l, y ≠ Str.ofString "") : (Txt.join (Str.ofString "/") l).length = 0 ↔ l = [] := by
  constructor
  · intro z
    cases l with
    | nil => rfl
    | cons a r =>
      rw [S_len, tjoin, List.map_cons, jl_cons, List.length_append, ← S_len] at z
      exact absurd (len0 (by (first | exact (Nat.le_antisymm (lin1 2 [_, _] 0 (.v 0) (.k 0) 1 (.a (.v 0) (.v 1)) (.k 0) (Nat.le_of_eq z) rfl (Eq.refl true)) (lin0 1 [_] (.k 0) (.v 0) rfl (Eq.refl true))) | omega))) (h a (.head _))
  · intro z; rw [z]; rfl
theorem e_append (x : Str) : Str.ofString "" ++ x = x := S_inj (by rw [S_append, S_e]; rfl)

noncomputable abbrev nqM (x2 : Str) (Dn Dc : Addr) (ini : Str) (t1 t2 t3 ta tb tc : Tok) (x : Str) (t : Tok) : Str → Option Value := fun y =>
  if y = Str.ofString "new_comps" then some (.ref Dn) else if y = Str.ofString "comps" then some (.ref Dc) else if y = Str.ofString "path" then some (.str x2 t3) else if y = Str.ofString "initial_slashes" then some (.str ini t2)
  else if y = Str.ofString "_" then some (.str (Str.ofString "") t1) else if y = Str.ofString "dotdot" then some (.str (Str.ofString "..") ta) else if y = Str.ofString "dot" then some (.str (Str.ofString ".") tb) else if y = Str.ofString "sep" then some (.str (Str.ofString "/") tc)
  else List.lookup y [(Str.ofString "path", Value.str x t)].reverse

theorem ct_np_abs {w : World} {A : Around} {Q : Value → Shared → Prop} {s : Shared} {p : Program} {loose : List Str} {mean : ExcName → Option Value} {mg mb : Str → Option Value}
    (X : (Mine.top.heap_1_39 w.params).In s.heap) (T : Top p loose mean mg mb s.heap) (hroom : A.depth + 20 < recursionLimit) (hh : A.handled = none) (x : Str) (t : Tok) (hx : x.length < 1000) (hne : x.length ≠ 0)
    (hp1 : ¬ ((Txt.slice x none (some 1) != Str.ofString "/") = true)) (hp2 : (Txt.slice x (some 1) (some 2) != Str.ofString "/") = true) {cs : List Str} (hcs : Txt.split (Txt.slice x (some 1) none) (Str.ofString "/") = cs) (hdd : ∀ i, cs[i]? = some (Str.ofString "..") → normS (cs.take i) = [Str.ofString "b"]) (hlen : cs.length < 100) (hcl : ∀ c ∈ cs, c.length ≤ 1000)
    (ret : ∀ h' tk t', Stays s.heap h' → Q (.str (Str.ofString "/" ++ Txt.join (Str.ofString "/") (normS cs)) t') { s with heap := h', toks := tk }) :
    wpAny (model PySem.Challenge.rw_aa0007_01.row.prog w) A (call (.ref 813) [.str x t]) Q noE s := by
  refine aro1 hh hroom ?_
  have hcs' : True → _ := fun _ => hcs
  clear hcs hh hroom
  intro ad af ag au hroom
  revert X; k_fill; intro X
  k_dflt (refine' enterK (binds := [(Str.ofString "path", Value.str x t)]) ?k1 ?k2 ?k6 ?k7 ?k8 ?k9 ?kB ?_ ?c5 ?c2 ?c3 ?c4; ((case k1 => assumption); (case k2 => exact Top.nolimit (by assumption)); (case k6 => k_is); (case k7 => k_is); (case k8 => (try dsimp only); (first | exact (ch1 21 0 1 0 hroom (Eq.refl true)) | exact (ch1 26 0 1 0 hroom (Eq.refl true)) | exact (ch1 16 0 1 0 hroom (Eq.refl true)) | omega)); (case k9 => exact BindsTo.of_eq rfl); (case c5 => decide); (case kB => exact locs rfl); (case c2 => exact rfl); (case c3 => exact rfl); (case c4 => exact rfl)))
  intro h₁ F
  (try k_extra "en")
  have N : News s.heap s.heap.objs.size h₁ [] := News.nil
  have hn1 : ¬ ((!((x.length : Int) != 0)) = true) := by simp; (first | exact (Nat.ne_of_gt (lin1 1 [_] 0 (.a (.k 0) (.k 1)) (.v 0) 1 (.k 1) (.v 0) (Nat.pos_of_ne_zero hne) rfl (Eq.refl true))) | omega)
  ((try k_extra "rf"); (repeat' (first | (k_extra "wb") | ((k_extra "lC"); (k_extra "wo")))))
  rename News _ _ _ _ => N
  rename Fr _ _ _ _ => F
  refine ct_splitP_abs (X.keeps F.keep) (T.keeps F.keep) (by show ad + 1 + 10 < recursionLimit; first | exact room hroom rfl | exact room2 hroom rfl | exact room3 hroom rfl | omega) _ _ hx hp1 hp2 ?_
  intro h2' tk2 D t1 t2 t3 st2 hD nD
  have F2 := fr_stay F st2
  have N2 := news_fresh F nD hD (news_stay N st2)
  clear F N st2
  have hsl : (Txt.slice x (some 1) none).length ≤ x.length := Txt.slice_le _ _ _
  ((try k_extra "rf"); (repeat' (first | (k_extra "v0") | (k_extra "wn") | ((k_extra "ge"); (k_extra "ve")) | ((k_extra "gx"); (k_extra "lF"); (k_extra "vx")) | (k_extra "rq") | ((k_extra "lF"); (k_extra "wo")))))
  rename News _ _ _ _ => N
  rename Fr _ _ _ _ => F
  rename (List.map _ _ = Txt.split _ _) => hl0
  rename List (Str × Tok) => l
  have hl := hl0.trans (hcs' trivial)
  clear hl0 hcs'
  rename @LT.lt Nat _ _ _ ∧ @LT.lt Nat _ _ _ => l1
  rename Heap => hN
  obtain ⟨Dn, Dc, ta, tb, tc, lc, ld, F1, N1⟩ : ∃ Dn Dc ta tb tc, @LT.lt Nat _ Dc Dn ∧ @LT.lt Nat _ D Dn ∧ Fr s.heap s.heap.objs.size hN (nqM (Txt.slice x (some 1) none) Dn Dc (Str.ofString "/") t1 t2 t3 ta tb tc x t) ∧ News s.heap s.heap.objs.size hN [(Dn, W.listOf #[] 0), (Dc, ({ cls := .type "list", data := .seq (strValues l).toArray } : Obj)),
    (D, ({ cls := .type "tuple", data := .seq #[.str (Str.ofString "") t1, .str (Str.ofString "/") t2, .str (Txt.slice x (some 1) none) t3] } : Obj))] := ⟨_, _, _, _, _, l1.1, l1.2, F, N⟩
  clear F N
  have hlz : (strValues l).toArray.size = cs.length := by rw [← hl]; simp [strValues]
  refine for_list (hs := by intro _; rfl) (P := fun i m n => ∃ c ln nn, m = (fun y => if y = Str.ofString "comp" then c else nqM (Txt.slice x (some 1) none) Dn Dc (Str.ofString "/") t1 t2 t3 ta tb tc x t y) ∧ n = [(Dn, W.listOf (strValues ln).toArray nn), (Dc, ({ cls := .type "list", data := .seq (strValues l).toArray } : Obj)),
    (D, ({ cls := .type "tuple", data := .seq #[.str (Str.ofString "") t1, .str (Str.ofString "/") t2, .str (Txt.slice x (some 1) none) t3] } : Obj))] ∧ ln.map (·.1) = normS (cs.take i)) (l := Dc) (items := (strValues l).toArray) rfl rfl rfl F1 N1 ⟨none, [], 0, funext fun y => ?_, rfl, rfl⟩ ?_ ?_ ?_ ?_
  · by_cases a : y = Str.ofString "comp"
    · subst a; rfl
    · rw [if_neg a]
  · rintro i m n h hp1_4 _ Nh
    refine hideL ?_; intro gg1
    obtain ⟨c, ln, nn, rfl, rfl, _⟩ := hp1_4
    k_unfold
    exact Nh.isList (.tail _ (.head _))
  · ((try k_extra "rf"); (repeat' (first | (k_extra "wb") | (k_extra "wo"))))
  · rintro i v m n h tk I oI hv hp2_9 hI hne F N
    refine hideL ?_; intro gg2
    obtain ⟨c0, ln, nn, rfl, rfl, hln⟩ := hp2_9
    k_unfold
    replace F : Fr s.heap s.heap.objs.size h _ := F
    replace N : News s.heap s.heap.objs.size h _ := N
    dsimp only at F
    rw [same_name] at F
    have lI : @LT.lt Nat _ Dn I := hI _ _ (N1 _ (.head _)).1
    have ne1 : @Ne Nat I Dn := Nat.ne_of_gt lI
    have ne2 : @Ne Nat Dc Dn := Nat.ne_of_lt lc
    have ne3 : @Ne Nat D Dn := Nat.ne_of_lt ld
    have lI2 : @LT.lt Nat _ Dc I := hI _ _ (N1 _ (.tail _ (.head _))).1
    have lI3 : @LT.lt Nat _ D I := hI _ _ (N1 _ (.tail _ (.tail _ (.head _)))).1
    obtain ⟨c, u, hci, rfl⟩ : ∃ c u, cs[i]? = some c ∧ v = .str c u := by
      have hv' : (strValues l)[i]? = some v := by simpa using hv
      rw [strValues, List.getElem?_map] at hv'
      cases hg : l[i]? with
      | none => rw [hg] at hv'; cases hv'
      | some cu =>
        rw [hg] at hv'
        obtain ⟨c, u⟩ := cu
        refine ⟨c, u, ?_, (Option.some.inj hv').symm⟩
        rw [← hl, List.getElem?_map, hg]; rfl
    have htk : normS (cs.take (i + 1)) = normStep (normS (cs.take i)) c := by
      rw [← normS_snoc, List.take_succ, hci]; rfl
    have hlnz : (strValues ln).toArray.size ≤ 100 := by
      have h1 := congrArg List.length hln
      have h2 := normS_len (cs.take i)
      rw [List.length_take] at h2
      simp [strValues] at h1 ⊢; (first | exact (lin4 4 [_, _, _, _] 0 (.v 0) (.k 100) 1 (.a (.v 1) (.k 1)) (.k 100) 1 (.v 2) (.v 3) 1 (.v 0) (.v 2) 1 (.v 3) (.v 1) hlen h2 (Nat.le_of_eq h1) (Nat.min_le_right _ _) rfl (Eq.refl true)) | omega)
    have hneA : ∀ o : Obj, ∀ p ∈ [(Dn, o), (Dc, ({ cls := .type "list", data := .seq (strValues l).toArray } : Obj)), (D, ({ cls := .type "tuple", data := .seq #[.str (Str.ofString "") t1, .str (Str.ofString "/") t2, .str (Txt.slice x (some 1) none) t3] } : Obj))], p.1 ≠ I :=
      fun o => List.forall_mem_cons.mpr ⟨Nat.ne_of_lt lI, List.forall_mem_cons.mpr ⟨Nat.ne_of_lt lI2, List.forall_mem_cons.mpr ⟨Nat.ne_of_lt lI3, List.forall_mem_nil _⟩⟩⟩
    have zc : c.length ≤ 1000 := hcl c (List.mem_of_getElem? hci)
    have zc9 : (c.length : Int) < 9223372036854775808 := Int.ofNat_lt.mpr (Nat.lt_of_le_of_lt zc (by decide : (1000 : Nat) < 9223372036854775808))
    have hne0 : c.length ≠ 0 → c ≠ Str.ofString "" := fun z e => z (by rw [e]; rfl)
    by_cases hc0 : c.length = 0
    · have q1 : (!((c.length : Int) != 0)) = true := by rw [hc0]; rfl
      have e0 : c = Str.ofString "" := len0 hc0
      ((try k_extra "rf"); (repeat' (first | (k_extra "w1") | (k_end; (k_extra "lAn"); (k_extra "vn")) | (k_extra "rq") | (k_extra "wo"))))
      rename News _ _ _ _ => N
      rename Fr _ _ _ _ => F
      (try dsimp only)
      refine ⟨by simp, _, _, _, _, rfl, F, N, fun p hp => hne p hp, some (.str c u), ln, nn, rfl, rfl, ?_⟩
      rw [htk, hln, normStep, if_pos (.inl e0)]
    have q1 : ¬ ((!((c.length : Int) != 0)) = true) := by simp; (first | exact (Nat.ne_of_gt (lin1 1 [_] 0 (.a (.k 0) (.k 1)) (.v 0) 1 (.k 1) (.v 0) (Nat.pos_of_ne_zero hc0) rfl (Eq.refl true))) | omega)
    by_cases hc1 : c = Str.ofString "."
    · have q2 : (c == Str.ofString ".") = true := by rw [hc1]; exact beq_self_eq_true _
      ((try k_extra "rf"); (repeat' (first | (k_extra "w1") | (k_end; (k_extra "lAn"); (k_extra "vn")) | (k_extra "rq") | (k_extra "wo"))))
      rename News _ _ _ _ => N
      rename Fr _ _ _ _ => F
      (try dsimp only)
      refine ⟨by simp, _, _, _, _, rfl, F, N, fun p hp => hne p hp, some (.str c u), ln, nn, rfl, rfl, ?_⟩
      rw [htk, hln, normStep, if_pos (.inr hc1)]
    have q2 : ¬ ((c == Str.ofString ".") = true) := fun z => hc1 (eq_of_beq z)
    by_cases hc2 : c = Str.ofString ".."
    · have hb := hdd i (by rw [hci, hc2])
      rw [hb] at hln
      obtain ⟨ub, rfl⟩ : ∃ ub, ln = [(Str.ofString "b", ub)] := by
        cases ln with
        | nil => cases hln
        | cons a r =>
          refine hideL ?_; intro gg3
          obtain ⟨a1, a2⟩ := a
          obtain ⟨e1, e2⟩ := List.cons.inj hln
          obtain rfl : r = [] := List.map_eq_nil_iff.mp e2
          k_unfold
          exact ⟨a2, by rw [show a1 = Str.ofString "b" from e1]⟩
      have q3 : ¬ ((c != Str.ofString "..") = true) := by rw [hc2]; simp
      replace N : News s.heap s.heap.objs.size h [(I, oI), (Dn, W.listOf #[Value.str (Str.ofString "b") ub] nn), (Dc, _), (D, _)] := N
      ((try k_extra "rf"); (repeat' (first | (k_extra "w1") | (k_end; (k_extra "lAn"); (k_extra "vn")) | (k_extra "rq") | (k_extra "wo"))))
      rename News _ _ _ _ => N
      rename Fr _ _ _ _ => F
      refine ⟨.inl rfl, _, _, _, _, rfl, F, N, hneA _, some (.str c u), [], nn + 1, rfl, rfl, ?_⟩
      rw [htk, hb, normStep, if_neg (by rintro (e | e); exact hne0 hc0 e; exact hc1 e), if_pos hc2]; rfl
    · have q3 : (c != Str.ofString "..") = true := by simpa using hc2
      ((try k_extra "rf"); (repeat' (first | (k_extra "w1") | (k_end; (k_extra "lAn"); (k_extra "vn")) | (k_extra "rq") | (k_extra "wo"))))
      rename News _ _ _ _ => N
      rename Fr _ _ _ _ => F
      have e : (strValues (ln ++ [(c, u)])).toArray = (strValues ln).toArray.push (Value.str c u) := by simp [strValues]
      rw [← e] at N
      refine ⟨.inl rfl, _, _, _, _, rfl, F, N, hneA _, some (.str c u), ln ++ [(c, u)], nn + 1, rfl, rfl, ?_⟩
      rw [htk, ← hln, normStep, if_neg (by rintro (e | e); exact hne0 hc0 e; exact hc1 e), if_neg hc2, List.map_append]; rfl
  · rintro h tk m n F N hp4_6
    refine hideL ?_; intro gg4
    obtain ⟨c, ln, nn, rfl, rfl, hln⟩ := hp4_6
    k_unfold
    replace F : Fr s.heap s.heap.objs.size h _ := F
    replace N : News s.heap s.heap.objs.size h _ := N
    (try dsimp only at F)
    have hlnz : (strValues ln).toArray.size ≤ 100 := by
      have h1 := congrArg List.length hln
      have h2 := normS_len (cs.take (strValues l).toArray.size)
      rw [List.length_take] at h2
      simp [strValues] at h1 h2 ⊢; (first | exact (lin4 4 [_, _, _, _] 0 (.v 0) (.k 100) 1 (.a (.v 1) (.k 1)) (.k 100) 1 (.v 0) (.v 2) 1 (.v 2) (.v 3) 1 (.v 3) (.v 1) hlen (Nat.le_of_eq h1) h2 (Nat.min_le_right _ _) rfl (Eq.refl true)) | omega)
    have hfull : cs.take (strValues l).toArray.size = cs := by rw [hlz]; exact List.take_length
    rw [hfull] at hln
    have hcnt : (normS cs).length ≤ 100 := Nat.le_trans (normS_len cs) (by (first | exact (ch1 1 100 0 100 hlen (Eq.refl true)) | omega))
    (try dsimp only)
    ((try k_extra "rf"); (repeat' (first | (k_extra "wb") | (k_extra "wo"))))
    rename News _ _ _ _ => N
    rename Fr _ _ _ _ => F
    refine SC.join (N.isList (.head _)) hln (joinOk_of_weight (wt_of (m := 100) (fun y hy => hcl y (normS_mem cs y hy)) hcnt rfl) (by decide)) ?_
    intro tj kj
    have hjl : (Txt.join (Str.ofString "/") (normS cs)).length ≤ 200000 := join_cap len_slash (fun y hy => hcl y (normS_mem cs y hy)) hcnt rfl
    have hpl : (Str.ofString "/" ++ Txt.join (Str.ofString "/") (normS cs)).length = 1 + (Txt.join (Str.ofString "/") (normS cs)).length := by
      rw [show (Str.ofString "/" ++ Txt.join (Str.ofString "/") (normS cs)).length = (Str.ofString "/").length + (Txt.join (Str.ofString "/") (normS cs)).length from Array.size_append, show (Str.ofString "/").length = 1 from by decide +kernel]
    have q5 : ¬ ((!(((Str.ofString "/" ++ Txt.join (Str.ofString "/") (normS cs)).length : Int) != 0)) = true) := by
      simp; (first | exact (ch1 0 0 0 0 hi2 (Eq.refl true)) | exact (Nat.ne_of_gt (lin1 2 [_, _] 0 (.a (.k 0) (.k 1)) (.v 0) 1 (.a (.k 1) (.v 1)) (.v 0) (Nat.le_of_eq hpl.symm) rfl (Eq.refl true))) | exact (Nat.ne_of_gt (lin1 1 [_] 0 (.a (.k 0) (.k 1)) (.v 0) 1 (.k 1) (.v 0) (Nat.pos_of_ne_zero this) rfl (Eq.refl true))) | omega)
    ((try k_extra "rf"); (repeat' (first | (k_extra "wb") | ((k_extra "lC"); (k_extra "wo")))))
    rename News _ _ _ _ => N
    rename Fr _ _ _ _ => F
    refine ct_fresh (X.keeps F.keep) (T.keeps F.keep) (by show ad + 1 + 2 < recursionLimit; first | exact room hroom rfl | exact room2 hroom rfl | exact room3 hroom rfl | omega) _ _ (by (first | exact (lin2 2 [_, _] 0 (.v 0) (.k 300000) 1 (.v 1) (.k 200000) 1 (.v 0) (.a (.k 1) (.v 1)) hjl (Nat.le_of_eq hpl) rfl (Eq.refl true)) | exact (ch1 0 200000 0 300000 hjl' (Eq.refl true)) | omega)) ?_
    intro h3 tk3 t3' st3
    (try dsimp only)
    (try refine handed_on rfl ?_)
    exact ret _ _ _ fun b o e => st3 b o (F.keep b o e)
end TF5
section TF6
open PySem PySem.W PyProof.Rows PySem.Calls
set_option maxHeartbeats 8000000


theorem truthy_e {prog : Program} {w : World} {A : Around} {E : Value → Shared → Prop} {s : Shared} {x : Str} {t : Tok} {Q : Bool → Shared → Prop} (h1 : (!((x.length : Int) != 0)) = true) (hl : x.length ≤ 300000) (h : ∀ k, Q false { s with toks := k }) : wpAny (model prog w) A (truthy (.str x t)) Q E s := by
  refine PySem.W.KXt.truthy (b := false) ?_ (by (first | exact (ch1 0 300000 0 16777216 hl (Eq.refl true)) | omega)) h
  revert h1; cases ((x.length : Int) != 0) <;> simp
theorem item_neg {prog : Program} {w : World} {A : Around} {E : Value → Shared → Prop} {s : Shared} {value slice : Expr} {l : Addr} {items : Array Value} {k : Int} {u : Tok} {v : Value} {Q : Value → Shared → Prop}
    (hl : s.heap.IsList l items) (h0 : k < 0) (h1 : -(items.size : Int) ≤ k) (hk : -(2 ^ 63) ≤ k) (hx : items[(k + items.size).toNat]? = some v) (h : Q v s)
    (hs : subscripted slice false (.ref l) (.int k u) = operate [.ref l, .int k u] (getItem (.ref l) (.int k u))) :
    wpAny (model prog w) A (subscriptTail value slice (.ref l) (.int k u)) Q E s :=
  tail_any hl.typeIs slot_list_getitem.lookup (wpAny_getItem_list_neg hl h0 h1 hk hx h) hs

theorem ct_np_rel {w : World} {A : Around} {Q : Value → Shared → Prop} {s : Shared} {p : Program} {loose : List Str} {mean : ExcName → Option Value} {mg mb : Str → Option Value}
    (X : (Mine.top.heap_1_39 w.params).In s.heap) (T : Top p loose mean mg mb s.heap) (hroom : A.depth + 20 < recursionLimit) (hh : A.handled = none) (x : Str) (t : Tok) (hx : x.length < 1000) (hne : x.length ≠ 0)
    (hp1 : (Txt.slice x none (some 1) != Str.ofString "/") = true) {cs : List Str} (hcs : Txt.split x (Str.ofString "/") = cs) (hdd : ∀ i, cs[i]? = some (Str.ofString "..") → cs.take i = List.replicate i (Str.ofString "..")) (hlen : cs.length < 100) (hcl : ∀ c ∈ cs, c.length ≤ 1000)
    (ret : ∀ h' tk t', Stays s.heap h' → Q (.str (npR cs) t') { s with heap := h', toks := tk }) :
    wpAny (model PySem.Challenge.rw_aa0007_01.row.prog w) A (call (.ref 813) [.str x t]) Q noE s := by
  refine aro1 hh hroom ?_
  clear hh hroom
  intro ad af ag au hroom
  revert X; k_fill; intro X
  k_dflt (refine' enterK (binds := [(Str.ofString "path", Value.str x t)]) ?k1 ?k2 ?k6 ?k7 ?k8 ?k9 ?kB ?_ ?c5 ?c2 ?c3 ?c4; ((case k1 => assumption); (case k2 => exact Top.nolimit (by assumption)); (case k6 => k_is); (case k7 => k_is); (case k8 => (try dsimp only); (first | exact (ch1 21 0 1 0 hroom (Eq.refl true)) | exact (ch1 26 0 1 0 hroom (Eq.refl true)) | exact (ch1 16 0 1 0 hroom (Eq.refl true)) | omega)); (case k9 => exact BindsTo.of_eq rfl); (case c5 => decide); (case kB => exact locs rfl); (case c2 => exact rfl); (case c3 => exact rfl); (case c4 => exact rfl)))
  intro h₁ F
  (try k_extra "en")
  have N : News s.heap s.heap.objs.size h₁ [] := News.nil
  have hn1 : ¬ ((!((x.length : Int) != 0)) = true) := by simp; (first | exact (Nat.ne_of_gt (lin1 1 [_] 0 (.a (.k 0) (.k 1)) (.v 0) 1 (.k 1) (.v 0) (Nat.pos_of_ne_zero hne) rfl (Eq.refl true))) | omega)
  ((try k_extra "rf"); (repeat' (first | (k_extra "wb") | ((k_extra "lC"); (k_extra "wo")))))
  rename News _ _ _ _ => N
  rename Fr _ _ _ _ => F
  refine ct_splitP_rel (X.keeps F.keep) (T.keeps F.keep) (by show ad + 1 + 10 < recursionLimit; first | exact room hroom rfl | exact room2 hroom rfl | exact room3 hroom rfl | omega) _ _ hx hp1 ?_
  intro h2' tk2 D t1 t2 t3 st2 hD nD
  have F2 := fr_stay F st2
  have N2 := news_fresh F nD hD (news_stay N st2)
  clear F N st2
  have hsl : (Txt.slice x (some 1) none).length ≤ x.length := Txt.slice_le _ _ _
  ((try k_extra "rf"); (repeat' (first | (k_extra "v0") | (k_extra "wn") | ((k_extra "ge"); (k_extra "ve")) | ((k_extra "gx"); (k_extra "lF"); (k_extra "vx")) | (k_extra "rq") | ((k_extra "lF"); (k_extra "wo")))))
  rename News _ _ _ _ => N
  rename Fr _ _ _ _ => F
  rename (List.map _ _ = Txt.split _ _) => hl0
  rename List (Str × Tok) => l
  have hl := hl0.trans hcs
  clear hl0
  rename @LT.lt Nat _ _ _ ∧ @LT.lt Nat _ _ _ => l1
  rename Heap => hN
  obtain ⟨Dn, Dc, ta, tb, tc, lc, ld, F1, N1⟩ : ∃ Dn Dc ta tb tc, @LT.lt Nat _ Dc Dn ∧ @LT.lt Nat _ D Dn ∧ Fr s.heap s.heap.objs.size hN (nqM (x) Dn Dc (Str.ofString "") t1 t2 t3 ta tb tc x t) ∧ News s.heap s.heap.objs.size hN [(Dn, W.listOf #[] 0), (Dc, ({ cls := .type "list", data := .seq (strValues l).toArray } : Obj)),
    (D, ({ cls := .type "tuple", data := .seq #[.str (Str.ofString "") t1, .str (Str.ofString "") t2, .str (x) t3] } : Obj))] := ⟨_, _, _, _, _, l1.1, l1.2, F, N⟩
  clear F N
  have hlz : (strValues l).toArray.size = cs.length := by rw [← hl]; simp [strValues]
  refine for_list (hs := by intro _; rfl) (P := fun i m n => ∃ c ln nn, m = (fun y => if y = Str.ofString "comp" then c else nqM (x) Dn Dc (Str.ofString "") t1 t2 t3 ta tb tc x t y) ∧ n = [(Dn, W.listOf (strValues ln).toArray nn), (Dc, ({ cls := .type "list", data := .seq (strValues l).toArray } : Obj)),
    (D, ({ cls := .type "tuple", data := .seq #[.str (Str.ofString "") t1, .str (Str.ofString "") t2, .str (x) t3] } : Obj))] ∧ ln.map (·.1) = normR (cs.take i)) (l := Dc) (items := (strValues l).toArray) rfl rfl rfl F1 N1 ⟨none, [], 0, funext fun y => ?_, rfl, rfl⟩ ?_ ?_ ?_ ?_
  · by_cases a : y = Str.ofString "comp"
    · subst a; rfl
    · rw [if_neg a]
  · rintro i m n h hp1_4 _ Nh
    refine hideL ?_; intro gg1
    obtain ⟨c, ln, nn, rfl, rfl, _⟩ := hp1_4
    k_unfold
    exact Nh.isList (.tail _ (.head _))
  · ((try k_extra "rf"); (repeat' (first | (k_extra "wb") | (k_extra "wo"))))
  · rintro i v m n h tk I oI hv hp2_9 hI hne F N
    refine hideL ?_; intro gg2
    obtain ⟨c0, ln, nn, rfl, rfl, hln⟩ := hp2_9
    k_unfold
    replace F : Fr s.heap s.heap.objs.size h _ := F
    replace N : News s.heap s.heap.objs.size h _ := N
    dsimp only at F
    rw [same_name] at F
    have lI : @LT.lt Nat _ Dn I := hI _ _ (N1 _ (.head _)).1
    have ne1 : @Ne Nat I Dn := Nat.ne_of_gt lI
    have ne2 : @Ne Nat Dc Dn := Nat.ne_of_lt lc
    have ne3 : @Ne Nat D Dn := Nat.ne_of_lt ld
    have lI2 : @LT.lt Nat _ Dc I := hI _ _ (N1 _ (.tail _ (.head _))).1
    have lI3 : @LT.lt Nat _ D I := hI _ _ (N1 _ (.tail _ (.tail _ (.head _)))).1
    obtain ⟨c, u, hci, rfl⟩ : ∃ c u, cs[i]? = some c ∧ v = .str c u := by
      have hv' : (strValues l)[i]? = some v := by simpa using hv
      rw [strValues, List.getElem?_map] at hv'
      cases hg : l[i]? with
      | none => rw [hg] at hv'; cases hv'
      | some cu =>
        rw [hg] at hv'
        obtain ⟨c, u⟩ := cu
        refine ⟨c, u, ?_, (Option.some.inj hv').symm⟩
        rw [← hl, List.getElem?_map, hg]; rfl
    have htk : normR (cs.take (i + 1)) = rstep (normR (cs.take i)) c := by
      rw [← normR_snoc, List.take_succ, hci]; rfl
    have hlnz : (strValues ln).toArray.size ≤ 100 := by
      have h1 := congrArg List.length hln
      have h2 := normR_len (cs.take i)
      rw [List.length_take] at h2
      simp [strValues] at h1 ⊢; (first | exact (lin4 4 [_, _, _, _] 0 (.v 0) (.k 100) 1 (.a (.v 1) (.k 1)) (.k 100) 1 (.v 2) (.v 3) 1 (.v 0) (.v 2) 1 (.v 3) (.v 1) hlen h2 (Nat.le_of_eq h1) (Nat.min_le_right _ _) rfl (Eq.refl true)) | omega)
    have hneA : ∀ o : Obj, ∀ p ∈ [(Dn, o), (Dc, ({ cls := .type "list", data := .seq (strValues l).toArray } : Obj)), (D, ({ cls := .type "tuple", data := .seq #[.str (Str.ofString "") t1, .str (Str.ofString "") t2, .str (x) t3] } : Obj))], p.1 ≠ I :=
      fun o => List.forall_mem_cons.mpr ⟨Nat.ne_of_lt lI, List.forall_mem_cons.mpr ⟨Nat.ne_of_lt lI2, List.forall_mem_cons.mpr ⟨Nat.ne_of_lt lI3, List.forall_mem_nil _⟩⟩⟩
    have zc : c.length ≤ 1000 := hcl c (List.mem_of_getElem? hci)
    have zc9 : (c.length : Int) < 9223372036854775808 := Int.ofNat_lt.mpr (Nat.lt_of_le_of_lt zc (by decide : (1000 : Nat) < 9223372036854775808))
    have hne0 : c.length ≠ 0 → c ≠ Str.ofString "" := fun z e => z (by rw [e]; rfl)
    by_cases hc0 : c.length = 0
    · have q1 : (!((c.length : Int) != 0)) = true := by rw [hc0]; rfl
      have e0 : c = Str.ofString "" := len0 hc0
      ((try k_extra "rf"); (repeat' (first | (k_extra "w1") | (k_end; (k_extra "lAn"); (k_extra "vn")) | (k_extra "rq") | (k_extra "wo"))))
      rename News _ _ _ _ => N
      rename Fr _ _ _ _ => F
      (try dsimp only)
      refine ⟨by simp, _, _, _, _, rfl, F, N, fun p hp => hne p hp, some (.str c u), ln, nn, rfl, rfl, ?_⟩
      rw [htk, hln, rstep, if_pos (.inl e0)]
    have q1 : ¬ ((!((c.length : Int) != 0)) = true) := by simp; (first | exact (Nat.ne_of_gt (lin1 1 [_] 0 (.a (.k 0) (.k 1)) (.v 0) 1 (.k 1) (.v 0) (Nat.pos_of_ne_zero hc0) rfl (Eq.refl true))) | omega)
    by_cases hc1 : c = Str.ofString "."
    · have q2 : (c == Str.ofString ".") = true := by rw [hc1]; exact beq_self_eq_true _
      ((try k_extra "rf"); (repeat' (first | (k_extra "w1") | (k_end; (k_extra "lAn"); (k_extra "vn")) | (k_extra "rq") | (k_extra "wo"))))
      rename News _ _ _ _ => N
      rename Fr _ _ _ _ => F
      (try dsimp only)
      refine ⟨by simp, _, _, _, _, rfl, F, N, fun p hp => hne p hp, some (.str c u), ln, nn, rfl, rfl, ?_⟩
      rw [htk, hln, rstep, if_pos (.inr hc1)]
    have q2 : ¬ ((c == Str.ofString ".") = true) := fun z => hc1 (eq_of_beq z)
    by_cases hc2 : c = Str.ofString ".."
    · have hb : normR (cs.take i) = List.replicate i (Str.ofString "..") := by rw [hdd i (by rw [hci, hc2]), normR_dots]
      have q3 : ¬ ((c != Str.ofString "..") = true) := by rw [hc2]; simp
      have e : (strValues (ln ++ [(c, u)])).toArray = (strValues ln).toArray.push (Value.str c u) := by simp [strValues]
      have hfin : List.map (·.1) (ln ++ [(c, u)]) = normR (cs.take (i + 1)) := by
        rw [htk, ← hln, rstep, if_neg (by rintro (e | e); exact hne0 hc0 e; exact hc1 e), List.map_append]; rfl
      rw [hb] at hln
      cases i with
      | zero =>
        obtain rfl : ln = [] := List.map_eq_nil_iff.mp hln
        replace N : News s.heap s.heap.objs.size h [(I, oI), (Dn, W.listOf #[] nn), (Dc, _), (D, _)] := N
        ((try k_extra "rf"); (repeat' (first | (k_extra "w1") | (k_end; (k_extra "lAn"); (k_extra "vn")) | (k_extra "rq") | (k_extra "wo"))))
        rename News _ _ _ _ => N
        rename Fr _ _ _ _ => F
        replace N : News s.heap s.heap.objs.size _ [(I, oI), (Dn, W.listOf (strValues ([] ++ [(c, u)])).toArray (nn + 1)), (Dc, _), (D, _)] := N
        exact ⟨.inl rfl, _, _, _, _, rfl, F, N, hneA _, some (.str c u), [] ++ [(c, u)], nn + 1, rfl, rfl, hfin⟩
      | succ j =>
        have hlast : ∃ ub, (strValues ln).toArray[(strValues ln).toArray.size - 1]? = some (.str (Str.ofString "..") ub) := by
          have h1 := congrArg List.length hln
          rw [List.length_map, List.length_replicate] at h1
          have h2 : (ln.map (·.1))[j]? = some (Str.ofString "..") := by rw [hln, List.getElem?_replicate]; simp
          rw [List.getElem?_map] at h2
          cases hg : ln[j]? with
          | none => rw [hg] at h2; cases h2
          | some y =>
            rw [hg] at h2
            refine ⟨y.2, ?_⟩
            have h3 : y.1 = Str.ofString ".." := Option.some.inj h2
            rw [← h3]
            obtain ⟨hjl, hjy⟩ := List.getElem?_eq_some_iff.mp hg
            simp [strValues, h1, hjy]
        obtain ⟨ub, hub⟩ := hlast
        have hsz1 : 1 ≤ (strValues ln).toArray.size := by
          have h1 := congrArg List.length hln
          rw [List.length_map, List.length_replicate] at h1
          simp [strValues]; (first | exact (lin1 2 [_, _] 0 (.k 1) (.v 0) 1 (.a (.v 1) (.k 1)) (.v 0) (Nat.le_of_eq h1.symm) rfl (Eq.refl true)) | omega)
        have hem : (strValues ln).toArray.isEmpty = false := by
          rw [Array.isEmpty_eq_false_iff]; intro z; rw [z] at hsz1; exact absurd hsz1 (by decide)
        have q4 : (!(strValues ln).toArray.isEmpty) = true := by rw [hem]; rfl
        have q5 : ¬ ((!(!(strValues ln).toArray.isEmpty)) = true) := by rw [hem]; decide
        ((try k_extra "rf"); (repeat' (first | (k_extra "wb") | ((k_extra "lTr"); (k_extra "lS"); (k_extra "wo")))))
        (rename News _ _ _ _ => N; rename Fr _ _ _ _ => F; refine wpAny_truthy_list (N.isList (.tail _ (.head _))) (by rw [List.size_toArray]; omega) ?_; (try dsimp only))
        ((try k_extra "rf"); (repeat' (first | (k_extra "wb") | ((k_extra "lTr"); (k_extra "lS"); (k_extra "wo")))))
        (rename News _ _ _ _ => N; rename Fr _ _ _ _ => F; refine wpAny_truthy_list (N.isList (.tail _ (.head _))) (by rw [List.size_toArray]; omega) ?_; (try dsimp only))
        ((try k_extra "rf"); (repeat' (first | (k_extra "wb") | ((k_extra "lS"); (k_extra "wo")))))
        rename News _ _ _ _ => N
        rename Fr _ _ _ _ => F
        refine item_neg (hs := by with_unfolding_all rfl) (N.isList (.tail _ (.head _))) (by decide) (by exact Int.neg_le_neg (Int.ofNat_le.mpr hsz1)) (by decide) (v := .str (Str.ofString "..") ub) (by rw [neg_one]; exact hub) ?_
        (try dsimp only)
        ((try k_extra "rf"); (repeat' (first | (k_extra "w1") | (k_end; (k_extra "lAn"); (k_extra "vn")) | (k_extra "rq") | (k_extra "wo"))))
        rename News _ _ _ _ => N
        rename Fr _ _ _ _ => F
        rw [← e] at N
        exact ⟨.inl rfl, _, _, _, _, rfl, F, N, hneA _, some (.str c u), ln ++ [(c, u)], nn + 1, rfl, rfl, hfin⟩
    · have q3 : (c != Str.ofString "..") = true := by simpa using hc2
      ((try k_extra "rf"); (repeat' (first | (k_extra "w1") | (k_end; (k_extra "lAn"); (k_extra "vn")) | (k_extra "rq") | (k_extra "wo"))))
      rename News _ _ _ _ => N
      rename Fr _ _ _ _ => F
      have e : (strValues (ln ++ [(c, u)])).toArray = (strValues ln).toArray.push (Value.str c u) := by simp [strValues]
      rw [← e] at N
      refine ⟨.inl rfl, _, _, _, _, rfl, F, N, hneA _, some (.str c u), ln ++ [(c, u)], nn + 1, rfl, rfl, ?_⟩
      rw [htk, ← hln, rstep, if_neg (by rintro (e | e); exact hne0 hc0 e; exact hc1 e), List.map_append]; rfl
  · rintro h tk m n F N hp3_6
    refine hideL ?_; intro gg3
    obtain ⟨c, ln, nn, rfl, rfl, hln⟩ := hp3_6
    k_unfold
    replace F : Fr s.heap s.heap.objs.size h _ := F
    replace N : News s.heap s.heap.objs.size h _ := N
    (try dsimp only at F)
    have hlnz : (strValues ln).toArray.size ≤ 100 := by
      have h1 := congrArg List.length hln
      have h2 := normR_len (cs.take (strValues l).toArray.size)
      rw [List.length_take] at h2
      simp [strValues] at h1 h2 ⊢; (first | exact (lin4 4 [_, _, _, _] 0 (.v 0) (.k 100) 1 (.a (.v 1) (.k 1)) (.k 100) 1 (.v 0) (.v 2) 1 (.v 2) (.v 3) 1 (.v 3) (.v 1) hlen (Nat.le_of_eq h1) h2 (Nat.min_le_right _ _) rfl (Eq.refl true)) | omega)
    have hfull : cs.take (strValues l).toArray.size = cs := by rw [hlz]; exact List.take_length
    rw [hfull] at hln
    have hcnt : (normR cs).length ≤ 100 := Nat.le_trans (normR_len cs) (by (first | exact (ch1 1 100 0 100 hlen (Eq.refl true)) | omega))
    (try dsimp only)
    ((try k_extra "rf"); (repeat' (first | (k_extra "wb") | (k_extra "wo"))))
    rename News _ _ _ _ => N
    rename Fr _ _ _ _ => F
    refine SC.join (N.isList (.head _)) hln (joinOk_of_weight (wt_of (m := 100) (fun y hy => hcl y (normR_mem cs y hy).1) hcnt rfl) (by decide)) ?_
    intro tj kj
    have hjl : (Txt.join (Str.ofString "/") (normR cs)).length ≤ 200000 := join_cap len_slash (fun y hy => hcl y (normR_mem cs y hy).1) hcnt rfl
    by_cases hem : normR cs = []
    · have e1 : npR cs = Str.ofString "." := if_pos hem
      rw [e1] at ret
      have q5 : (!(((Str.ofString "" ++ Txt.join (Str.ofString "/") (normR cs)).length : Int) != 0)) = true := by rw [e_append, hem]; rfl
      ((try k_extra "rf"); (repeat' (first | (k_extra "wb") | ((k_extra "lTs"); (k_extra "wo")))))
      refine truthy_e q5 (by rw [e_append]; (first | exact (ch1 0 200000 0 300000 hjl (Eq.refl true)) | omega)) ?_
      intro tk8
      (try dsimp only)
      ((try k_extra "rf"); (repeat' (first | (k_extra "wb") | (k_extra "wo"))))
      (try dsimp only)
      rename News _ _ _ _ => N
      rename Fr _ _ _ _ => F
      exact ret _ _ _ F.keep
    have e1 : npR cs = _ := if_neg hem
    rw [e1, ← e_append (Txt.join (Str.ofString "/") (normR cs))] at ret
    have hjl' : (Str.ofString "" ++ Txt.join (Str.ofString "/") (normR cs)).length ≤ 200000 := by rw [e_append]; exact hjl
    have q5 : ¬ ((!(((Str.ofString "" ++ Txt.join (Str.ofString "/") (normR cs)).length : Int) != 0)) = true) := by
      rw [e_append]
      have := mt (join_len0 (fun y hy => (normR_mem cs y hy).2)).mp hem
      simp; (first | exact (ch1 0 0 0 0 hi2 (Eq.refl true)) | exact (Nat.ne_of_gt (lin1 2 [_, _] 0 (.a (.k 0) (.k 1)) (.v 0) 1 (.a (.k 1) (.v 1)) (.v 0) (Nat.le_of_eq hpl.symm) rfl (Eq.refl true))) | exact (Nat.ne_of_gt (lin1 1 [_] 0 (.a (.k 0) (.k 1)) (.v 0) 1 (.k 1) (.v 0) (Nat.pos_of_ne_zero this) rfl (Eq.refl true))) | omega)
    ((try k_extra "rf"); (repeat' (first | (k_extra "wb") | ((k_extra "lC"); (k_extra "wo")))))
    rename News _ _ _ _ => N
    rename Fr _ _ _ _ => F
    refine ct_fresh (X.keeps F.keep) (T.keeps F.keep) (by show ad + 1 + 2 < recursionLimit; first | exact room hroom rfl | exact room2 hroom rfl | exact room3 hroom rfl | omega) _ _ (by (first | exact (lin2 2 [_, _] 0 (.v 0) (.k 300000) 1 (.v 1) (.k 200000) 1 (.v 0) (.a (.k 1) (.v 1)) hjl (Nat.le_of_eq hpl) rfl (Eq.refl true)) | exact (ch1 0 200000 0 300000 hjl' (Eq.refl true)) | omega)) ?_
    intro h3 tk3 t3' st3
    (try dsimp only)
    (try refine handed_on rfl ?_)
    exact ret _ _ _ fun b o e => st3 b o (F.keep b o e)
end TF6
section TF7
open PySem PySem.W PyProof.Rows PySem.Calls
set_option maxHeartbeats 8000000

theorem truthy_noDict {prog : Program} {w : World} {A : Around} {E : Value → Shared → Prop} {s : Shared} {D : Addr} {Q : Bool → Shared → Prop} (hds : (D == sysModules) = false) (hD : s.heap.get? D = some (dictOf [] 0)) (h : ∀ k, Q false { s with toks := k }) : wpAny (model prog w) A (truthy (.ref D)) Q E s :=
  wpAny_truthy_dict (knd := intKind prog w) (kvs := []) hds ⟨_, #[], 0, hD, ⟨rfl, rfl, rfl⟩, rfl, fun _ he => by simp at he, Pairs.nil, List.nodup_nil⟩ (by decide) (h _)
noncomputable abbrev tup1 (x : Str) (t : Tok) : Obj := { cls := .type "tuple", data := .seq #[.str x t] }
theorem ct_cpath {w : World} {A : Around} {Q : Value → Shared → Prop} {s : Shared} {p : Program} {loose : List Str} {mean : ExcName → Option Value} {mg mb : Str → Option Value} {h₀ : Heap}
    (X : (Mine.top.heap_1_39 w.params).In h₀) (T : Top p loose mean mg mb h₀) (st : Stays h₀ s.heap) (hroom : A.depth + 5 < recursionLimit) (hh : A.handled = none) (x n1 n2 n3 : Str) (t u1 u2 u3 : Tok) {C D : Addr} (hC : s.heap.get? C = some (tup1 x t)) (hD : s.heap.get? D = some (dictOf [] 0)) (lq : C < D) (hds : (D == sysModules) = false) (nC : h₀.get? C = none) (nD : h₀.get? D = none)
    (ret : ∀ h' tk, Stays s.heap h' → Q (.str x t) { s with heap := h', toks := tk }) :
    wpAny (model PySem.Challenge.rw_aa0007_01.row.prog w) A (call (.ref 778) [.str n1 u1, .str n2 u2, .str n3 u3, .ref C, .ref D]) Q noE s := by
  refine aro1 hh hroom ?_
  clear hh hroom
  intro ad af ag au hroom
  revert X; k_fill; intro X
  k_dflt (refine' enterG (h₀ := h₀) (binds := [(Str.ofString "name", Value.str n1 u1), (Str.ofString "cname", Value.str n2 u2), (Str.ofString "argname", Value.str n3 u3), (Str.ofString "args", Value.ref C), (Str.ofString "kwargs", Value.ref D)]) [(D, dictOf [] 0), (C, tup1 x t)] ?k1 ?k2 ?k3 ?k4 ?k6 ?k7 ?k8 ?k9 ?kB ?_ ?c5 ?c2 ?c3 ?c4; (case k4 => exact own_two hD hC nD nC); ((case k1 => assumption); (case k2 => assumption); (case k3 => assumption); (case k6 => k_is); (case k7 => k_is); (case k8 => (try dsimp only); (first | exact (ch1 6 0 1 0 hroom (Eq.refl true)) | omega)); (case k9 => first | exact BindsTo.of_eq rfl | exact binds_K (Frag.In.keeps (by assumption) (by assumption)) rfl (by k_is) rfl rfl rfl); (case c5 => decide); (case kB => exact locs rfl); (case c2 => exact rfl); (case c3 => exact rfl); (case c4 => exact rfl)))
  have lq' : @LT.lt Nat _ C D := lq
  intro g h₁ Xg Tg sg kept hsz F N
  (try k_extra "en")
  ((try k_extra "rf"); (repeat' (first | (k_extra "wb") | ((k_extra "lTr"); (k_extra "wo")))))
  rename News _ _ _ _ => N
  rename Fr _ _ _ _ => F
  refine truthy_noDict hds (N _ (.head _)).1 ?_
  intro tk1
  (try dsimp only)
  ((try k_extra "rf"); (repeat' (first | (k_extra "wb") | ((k_extra "lC"); (k_extra "wo")))))
  rename News _ _ _ _ => N
  rename Fr _ _ _ _ => F
  refine ct_kind (Xg.keeps F.keep) (Tg.keeps F.keep) (by show ad + 1 + 2 < recursionLimit; first | exact room hroom rfl | exact room2 hroom rfl | exact room3 hroom rfl | omega) _ _ _ _ ?_
  intro h2 tk2 t2 st2
  have F2 := fr_stay F st2
  have N2 := news_stay N st2
  clear F N st2
  ((try k_extra "rf"); (repeat' (first | (k_extra "wb") | (k_extra "wo"))))
  (try dsimp only)
  rename News _ _ _ _ => N
  rename Fr _ _ _ _ => F
  exact ret _ _ (stays_two (kept _ F.keep) hD hC (N _ (.head _)).1 (N _ (.tail _ (.head _))).1)

theorem ct_normP {w : World} {A : Around} {Q : Value → Shared → Prop} {s : Shared} {p : Program} {loose : List Str} {mean : ExcName → Option Value} {mg mb : Str → Option Value}
    (X : (Mine.top.heap_1_39 w.params).In s.heap) (T : Top p loose mean mg mb s.heap) (hroom : A.depth + 30 < recursionLimit) (hh : A.handled = none) (x r : Str) (t : Tok)
    (np : ∀ (A' : Around) (h : Heap) (tk : Nat) (Q' : Value → Shared → Prop), A'.handled = none → A'.depth ≤ A.depth + 5 → Stays s.heap h → (∀ h' tk' t', Stays h h' → Q' (.str r t') { s with heap := h', toks := tk' }) → wpAny (model PySem.Challenge.rw_aa0007_01.row.prog w) A' (call (.ref 813) [.str x t]) Q' noE { s with heap := h, toks := tk })
    (ret : ∀ h' tk t', Stays s.heap h' → Q (.str r t') { s with heap := h', toks := tk }) :
    wpAny (model PySem.Challenge.rw_aa0007_01.row.prog w) A (call (.ref 820) [.str x t]) Q noE s := by
  refine hideL ?_; intro gg1
  obtain ⟨ah, ad, af, ag, au⟩ := A
  obtain rfl : ah = none := hh
  k_unfold
  dsimp only at hroom
  revert X; k_fill; intro X
  k_dflt (refine' enterStar (vs := [.str x t]) (binds := fun C D => [(Str.ofString "args", Value.ref C), (Str.ofString "kwargs", Value.ref D)]) ?k1 ?k2 ?k6 ?k7 ?k8 ?p1 ?p2 ?p3 ?kB ?_ ?c5 ?c2 ?c3 ?c4; ((case k1 => assumption); (case k2 => exact Top.nolimit (by assumption)); (case k6 => k_is); (case k7 => k_is); (case k8 => (try dsimp only); (first | exact (ch1 31 0 1 0 hroom (Eq.refl true)) | omega)); (case p1 => exact rfl); (case p2 => exact fun _ => rfl); (case p3 => exact fun _ _ => rfl); (case c5 => decide); (case kB => exact fun _ _ => locs rfl); (case c2 => exact rfl); (case c3 => exact rfl); (case c4 => exact rfl)))
  intro h₁ C D hCD hC F N
  k_dflt (have z0 := Heap.lt_size (X 820 _ (by k_is)))
  have hds : (D == sysModules) = false := by
    have z1 : @LT.lt Nat _ 820 s.heap.objs.size := z0
    have z2 : @LE.le Nat _ s.heap.objs.size C := hC
    have z3 : @LT.lt Nat _ C D := hCD
    rw [beq_eq_false_iff_ne]
    refine Nat.ne_of_gt ?_
    show @LT.lt Nat _ 1 D
    (first | exact (ch3 0 0 1 0 1 0 0 0 hC hCD z (Eq.refl true)) | exact (ch2 1 0 0 0 1 0 hlt (Nat.le_of_eq this.symm) (Eq.refl true)) | exact (ch3 821 0 0 0 1 0 2 0 z0 hC hCD (Eq.refl true)) | exact (And.intro (lin0 1 [_] (.k 5) (.a (.v 0) (.a (.a (.a (.a (.a (.k 0) (.k 1)) (.k 1)) (.k 1)) (.k 1)) (.k 1))) rfl (Eq.refl true)) (lin1 1 [_] 0 (.a (.v 0) (.a (.a (.a (.a (.a (.k 0) (.k 1)) (.k 1)) (.k 1)) (.k 1)) (.k 1))) (.k 11) 1 (.v 0) (.k 6) (Nat.min_le_left _ _) rfl (Eq.refl true))) | exact (lin1 1 [_] 0 (.a (.a (.a (.k 0) (.k 1)) (.v 0)) (.k 1)) (.k 1000) 1 (.v 0) (.k 200) this rfl (Eq.refl true)) | exact (Nat.le_antisymm (lin1 2 [_, _] 0 (.v 0) (.v 1) 1 (.v 0) (.v 1) hc3 rfl (Eq.refl true)) (lin1 2 [_, _] 0 (.v 0) (.v 1) 1 (.v 0) (.v 1) this rfl (Eq.refl true))) | exact (lin2 2 [_, _] 0 (.a (.a (.v 0) (.v 1)) (.k 1)) (.k 900) 1 (.v 1) (.k 200) 1 (.v 0) (.k 1) h1 (Nat.le_of_eq this) rfl (Eq.refl true)) | exact (ch4 0 0 0 0 1 11 1000 0 0 0 (Nat.le_of_eq h1) h2 zi h3 (Eq.refl true)) | exact (ch4 0 0 0 0 1 11 1000 0 0 0 (Nat.le_of_eq h1) h2 zi z1000 (Eq.refl true)) | omega)
  ((try k_extra "rf"); (repeat' (first | (k_extra "wb") | ((k_extra "lC"); (k_extra "wo")))))
  rename News _ _ _ _ => N
  rename Fr _ _ _ _ => F
  refine ct_cpath X T F.keep (by show ad + 1 + 5 < recursionLimit; first | exact room hroom rfl | exact room2 hroom rfl | exact room3 hroom rfl | omega) rfl x _ _ _ t _ _ _ (N _ (.tail _ (.head _))).1 (N _ (.head _)).1 hCD hds (N _ (.tail _ (.head _))).2.2 (N _ (.head _)).2.2 ?_
  intro h2 tk2 st2
  have F2 := fr_stay F st2
  have N2 := news_stay N st2
  clear F N st2
  ((try k_extra "rf"); (repeat' (first | (k_extra "wb") | ((k_extra "lC"); (k_extra "wo")))))
  rename News _ _ _ _ => N
  rename Fr _ _ _ _ => F
  refine np _ _ _ _ rfl (by show ad + 1 ≤ ad + 5; (first | exact (ch0 1 5 (Eq.refl true)) | omega)) F.keep ?_
  intro h3 tk3 t3 st3
  (try dsimp only)
  (try refine handed_on rfl ?_)
  exact ret _ _ _ fun b o e => st3 b o (F.keep b o e)
end TF7
section TF8
open PySem PySem.W PyProof.Rows PySem.Calls
set_option maxHeartbeats 8000000

theorem own_three {h h₀ : Heap} {q d e : Addr} {a b c : Obj} (hq : h.get? q = some a) (hd : h.get? d = some b) (he : h.get? e = some c) (nq : h₀.get? q = none) (nd : h₀.get? d = none) (ne : h₀.get? e = none) :
    ∀ p ∈ [(q, a), (d, b), (e, c)], h.get? p.1 = some p.2 ∧ h₀.get? p.1 = none :=
  List.forall_mem_cons.mpr ⟨⟨hq, nq⟩, own_two hd he nd ne⟩

noncomputable abbrev igD (w : World) (u1 u2 u3 : Tok) (Sx Ld Di : Addr) : List DictEntry := [ent w "_mods" u1 (.ref Sx), ent w "_dirs" u2 (.ref Ld), ent w "_ignore" u3 (.ref Di)]
structure Ign (w : World) (h : Heap) (q dx Sx Ld Di : Addr) (d : Str) (kvs : List (Str × Value)) : Prop where
  hq : h.get? q = some (instObj 954 dx)
  hdx : ∃ u1 u2 u3, h.get? dx = some (dictOf (igD w u1 u2 u3 Sx Ld Di) 3)
  hS : ∃ led, h.get? Sx = some { cls := .type "set", data := .set #[] 0 (SetTable.fresh 0 0 led) }
  hL : ∃ t, h.get? Ld = some (LCg.lst [.str d t])
  hD : ∃ o, h.get? Di = some o ∧ Obj.IsDictOf (PySem.strKind PySem.Challenge.rw_aa0007_01.row.prog w) o kvs
  hds : (Di == sysModules) = false
structure IgnA (q dx Sx Ld Di : Addr) : Prop where
  a1 : @LT.lt Nat _ dx q
  a2 : @LT.lt Nat _ q Sx
  a3 : @Ne Nat Sx Ld ∧ @Ne Nat q Ld ∧ @Ne Nat dx Ld
  a4 : @LT.lt Nat _ Ld Di ∧ @LT.lt Nat _ Sx Di ∧ @LT.lt Nat _ q Di ∧ @LT.lt Nat _ dx Di

theorem ct_iinit {w : World} {A : Around} {R : Result → Shared → Prop} {s : Shared} {p : Program} {loose : List Str} {mean : ExcName → Option Value} {mg mb : Str → Option Value} {h₀ : Heap}
    (X : (Mine.top.heap_1_39 w.params).In h₀) (T : Top p loose mean mg mb h₀) (st : Stays h₀ s.heap) (hroom : A.depth + 40 < recursionLimit) (hh : A.handled = none)
    (x r : Str) (t : Tok) (q dx Lw : Addr) (hq : s.heap.get? q = some (instObj 954 dx)) (hdx : s.heap.get? dx = some emptyDict) (hLw : s.heap.get? Lw = some (W.listOf #[.str x t] 0)) (lq : dx < q) (lw : Lw < dx) (nq : h₀.get? q = none) (nd : h₀.get? dx = none) (nLw : h₀.get? Lw = none)
    (np : ∀ (A' : Around) (h : Heap) (tk : Nat) (Q' : Value → Shared → Prop), A'.handled = none → A'.depth ≤ A.depth + 10 → Stays h₀ h → (∀ h' tk' t', Stays h h' → Q' (.str r t') { s with heap := h', toks := tk' }) → wpAny (model PySem.Challenge.rw_aa0007_01.row.prog w) A' (call (.ref 813) [.str x t]) Q' noE { s with heap := h, toks := tk })
    (ret : ∀ h' tk Sx Ld Di u, Kept [q, dx] s.heap h' → Ign w h' q dx Sx Ld Di r [(Str.ofString "<string>", .int 1 u)] → IgnA q dx Sx Ld Di → s.heap.get? Sx = none → s.heap.get? Ld = none → s.heap.get? Di = none → R (.ok (.ret .none)) { s with heap := h', toks := tk }) :
    codeAny (model PySem.Challenge.rw_aa0007_01.row.prog w) A (.call (.ref 944) ⟨[.ref q, .none, .ref Lw], []⟩) R s := by
  refine hideL ?_; intro gg1
  obtain ⟨ah, ad, af, ag, au⟩ := A
  obtain rfl : ah = none := hh
  k_unfold
  dsimp only at hroom
  revert X; k_fill; intro X
  k_dflt (refine' enterGc (h₀ := h₀) (binds := [(Str.ofString "self", Value.ref q), (Str.ofString "modules", Value.none), (Str.ofString "dirs", Value.ref Lw)]) [(q, instObj 954 dx), (dx, dictOf [] 0), (Lw, W.listOf #[.str x t] 0)] ?k1 ?k2 ?k3 ?k4 ?k6 ?k7 ?k8 ?k9 ?kB ?_ ?c5 ?c2 ?c3 ?c4; (case k4 => exact own_three hq hdx hLw nq nd nLw); ((case k1 => assumption); (case k2 => assumption); (case k3 => assumption); (case k6 => k_is); (case k7 => k_is); (case k8 => (try dsimp only); (first | exact (ch1 41 0 1 0 hroom (Eq.refl true)) | omega)); (case k9 => first | exact BindsTo.of_eq rfl | exact binds_K (Frag.In.keeps (by assumption) (by assumption)) rfl (by k_is) rfl rfl rfl); (case c5 => decide); (case kB => exact locs rfl); (case c2 => exact rfl); (case c3 => exact rfl); (case c4 => exact rfl)))
  have lq' : @LT.lt Nat _ dx q := lq
  have lw' : @LT.lt Nat _ Lw dx := lw
  intro g h₁ Xg Tg sg kept hsz F N
  (try k_extra "en")
  ((try k_extra "rf"); (repeat' (first | (k_extra "wb") | ((k_extra "lC"); (k_extra "wo")))))
  rename News _ _ _ _ => N
  rename Fr _ _ _ _ => F
  refine wpAny_mono (ct_normP (X.keeps (fun b o e => F.keep b o (sg b o e))) (T.keeps (fun b o e => F.keep b o (sg b o e))) (by show ad + 1 + 30 < recursionLimit; first | exact room hroom rfl | exact room2 hroom rfl | exact room3 hroom rfl | omega) rfl x r _ ?_ ?_) (fun _ _ z => z) (fun _ _ (z : False) => z.elim)
  · intro A' h tk Q' e1 e2 e3 e4
    exact np A' h tk Q' e1 (by have e2' : A'.depth ≤ ad + 1 + 5 := e2; show A'.depth ≤ ad + 10; (first | exact (ch1 0 6 0 10 e2' (Eq.refl true)) | omega)) (fun b o e => e3 b o (F.keep b o (sg b o e))) e4
  intro h3 tk3 t3 st3
  have F2 := fr_stay F st3
  have N2 := news_stay N st3
  clear F N st3
  have nqd : @Ne Nat q dx := Nat.ne_of_gt lq'
  have nld : @Ne Nat Lw dx := Nat.ne_of_lt lw'
  ((try k_extra "rf"); (repeat' (first | ((rename (@Ne Nat _ _ ∧ _) => zz); have za := zz.1; have zb := zz.2; clear zz) | ((rename ((@Ne Nat _ _ ∧ _) ∧ _) => zz); have za := zz.1; have zb := zz.2; clear zz) | ((rename (@LT.lt Nat _ _ _ ∧ _) => zz); have za := zz.1; have zb := zz.2; have zc := Nat.ne_of_gt za; clear zz) | (k_extra "wb") | (k_extra "wo"))))
  rename News _ _ _ _ => N
  rename Fr _ _ _ _ => F
  rename Obj.IsDictOf _ _ _ => hI
  rename (_ == sysModules) = false => hds
  have n1 := N _ (.head _)
  have n2 := N _ (.tail _ (.head _))
  have n3 := N _ (.tail _ (.tail _ (.head _)))
  have n4 := N _ (.tail _ (.tail _ (.tail _ (.head _))))
  have n5 := N _ (.tail _ (.tail _ (.tail _ (.tail _ (.head _)))))
  have n6 := N _ (.tail _ (.tail _ (.tail _ (.tail _ (.tail _ (.head _))))))
  dsimp only at n1 n2 n3 n4 n5 n6
  have fresh : ∀ b, g.get? b = none → @Ne Nat b q → @Ne Nat b dx → @Ne Nat b Lw → s.heap.get? b = none := by
    intro b hb e1 e2 e3
    cases e : s.heap.get? b with
    | none => rfl
    | some o =>
      have := kept g (fun _ _ z => z) b o (by simp only [List.map_cons, List.map_nil, List.mem_cons, List.not_mem_nil, or_false, not_or]; exact ⟨e1, e2, e3⟩) e
      rw [hb] at this; cases this
  refine ret _ _ _ _ _ _ (fun b o hb e => ?_) ⟨n4.1, ⟨_, _, _, n5.1⟩, ⟨_, n3.1⟩, ⟨_, n2.1⟩, ⟨_, n1.1, hI⟩, hds⟩ ⟨lq, (by assumption), ⟨(by assumption), (by assumption), (by assumption)⟩, ⟨(by assumption), (by assumption), (by assumption), (by assumption)⟩⟩ (fresh _ n3.2.2 (Nat.ne_of_gt (by assumption)) (Nat.ne_of_gt (by assumption)) (Nat.ne_of_gt (by assumption))) (fresh _ n2.2.2 (Ne.symm (by assumption)) (Ne.symm (by assumption)) (Ne.symm (by assumption))) (fresh _ n1.2.2 (Nat.ne_of_gt (by assumption)) (Nat.ne_of_gt (by assumption)) (Nat.ne_of_gt (by assumption)))
  by_cases hl : b = Lw
  · subst hl; rw [hLw] at e; cases e; exact n6.1
  · refine kept _ F.keep b o ?_ e
    simp only [List.map_cons, List.map_nil, List.mem_cons, List.not_mem_nil, or_false, not_or] at hb ⊢
    exact ⟨hb.1, hb.2, hl⟩
end TF8
section TB9
open PySem PySem.W PyProof.Rows PySem.Calls Builtin
set_option maxHeartbeats 4000000
noncomputable abbrev setO (led : Bool) : Obj := { cls := .type "set", data := .set #[] 0 (SetTable.fresh 0 0 led) }
noncomputable abbrev sitO (x : Value) : Obj := { cls := .type "set_iterator", data := .fields #[.int 0 0, .int 0 0, x, .int 0 0, .int 0 0] }
theorem entry_set_iter : entryFor table "set.__iter__" = some Builtin.«frozenset.__iter__» :=
  entryFor_alias (id' := "frozenset.__iter__") (by rw [fastTable_eq_tree]; kernel_rfl) rfl (by rw [PySem.W.S.canonicalZ_eq]; decide +kernel) (by rw [fastTable_eq_tree]; kernel_rfl)
theorem slot_sit_next : Slot "set_iterator" "__next__" "set_iterator.__next__" :=
  .of (owner := "set_iterator") (n := "__next__") (by rw [typeLookup_type, builtinLookup_eq_fast]; kernel_rfl) (by decide +kernel) (by decide +kernel) (by decide +kernel)
    (.inl (by rw [PySem.W.S.findZ_eq]; decide +kernel)) (by rw [isSubtype_type]; kernel_rfl)
theorem entry_sit_next : entryFor table "set_iterator.__next__" = some Builtin.«set_iterator.__next__» := entryFor_of_tree (by kernel_rfl)
theorem owner_sit : Manifest.owners.lookup (String.ofList "set_iterator".toList.reverse.reverse) = some Manifest.sig_set_iterator := by kernel_rfl
theorem args_sit_next (a : Value) : argsOk "set_iterator.__next__" ⟨[a], []⟩ := by
  unfold argsOk; rw [signature?_of (id := "set_iterator.__next__") (n := "__next__".toList.reverse) (o := "set_iterator".toList.reverse) (by kernel_rfl) owner_sit]; kernel_rfl
section
variable {prog : Program} {w : World} {A : Around} {E : Value → Shared → Prop} {s : Shared}
theorem fresh_fits (led : Bool) : (SetTable.fresh 0 0 led).fits (#[] : Array (Int × Value)).size = true := by cases led <;> decide
theorem byText_ {Q : Bool → Shared → Prop} (h : Q (w.params.followText "set-order") s) : wpAny (model prog w) A setsByText Q E s := by
  unfold setsByText
  exact wpAny_bind (wpAny_askSetting (wpAny_pure h))
theorem pyIter_noset {S : Addr} {led : Bool} {Q : Value → Shared → Prop} (hS : s.heap.get? S = some (setO led))
    (hQ : Q (.ref s.heap.objs.size) { s with heap := s.heap.push (sitO (.ref S)) }) : wpAny (model prog w) A (pyIter (.ref S)) Q E s := by
  have hT : s.TypeIs (.ref S) "set" := ⟨_, hS, rfl⟩
  refine wpAny_pyIter_slot hT F.slot_set_iter (wpAny_call_entry F.slot_set_iter hT entry_set_iter ?_ (F.args_set_iter_1 _))
  unfold Builtin.«frozenset.__iter__»
  refine wpAny_bind (wpAny_pure ?_)
  (try dsimp only)
  unfold Builtin.Frozenset.sizeOf setEntries setDrawn setEpoch
  refine wpAny_bind (wpAny_bind (wpAny_bind (wpAny_setState_of hS rfl (fresh_fits led) (wpAny_pure (wpAny_pure ?_)))))
  refine wpAny_bind (wpAny_bind (wpAny_setState_of hS rfl (fresh_fits led) ?_))
  (try dsimp only)
  refine wpAny_bind (byText_ (wpAny_pure ?_))
  rw [if_neg (by cases w.params.followText "set-order" <;> cases led <;> exact Bool.false_ne_true)]
  refine wpAny_bind (wpAny_pure ?_)
  refine wpAny_bind (wpAny_bind (wpAny_setState_of hS rfl (fresh_fits led) (wpAny_pure ?_)))
  exact wpAny_bind (wpAny_newObj_type (wpAny_pure ⟨_, rfl, "set_iterator", _, ⟨_, Heap.get?_push_size _ rfl, rfl⟩, slot_sit_next.lookup, hQ⟩))
theorem pyNext_noset {it S : Addr} {led : Bool} {Q : Option Value → Shared → Prop} (hh : A.handled = none) (hS : s.heap.get? S = some (setO led)) (hit : s.heap.get? it = some (sitO (.ref S)))
    (hQ : ∀ h', Heap.ExtBut it s.heap h' → Q none { s with heap := h' }) : wpAny (model prog w) A (pyNext (.ref it)) Q E s := by
  have hT : s.TypeIs (.ref it) "set_iterator" := ⟨_, hit, rfl⟩
  unfold pyNext
  refine wpAny_bind (wpAny_attempt (wpAny_callSpecial?_slot (name := Str.ofString "__next__") hT slot_sit_next
    (wpAny_call_entry slot_sit_next hT entry_sit_next ?_ (args_sit_next _))))
  unfold Builtin.«set_iterator.__next__»
  refine wpAny_bind (wpAny_pure ?_)
  (try dsimp only)
  refine wpAny_bind (wpAny_fieldsOf hit rfl ?_)
  (try dsimp only)
  unfold setEntries
  refine wpAny_bind (wpAny_bind (wpAny_setState_of hS rfl (fresh_fits led) (wpAny_pure ?_)))
  rw [if_neg (by exact Bool.false_ne_true)]
  try dsimp only
  have fin : wpAny (model prog w) A.in1 (do setField (.ref it) 2 Value.none; raiseNew (← newExc (.type "StopIteration") [])) (fun fin s' => ∃ v, fin = PySem.Fin.done (Flow.ret v) ∧ wpAny (model prog w) A (pure (some v)) Q E s')
      (fun e s' => wpAny (model prog w) A (do let b ← isInstance e (Value.type "StopIteration"); if b = true then pure none else throw e) Q E s') s := by
    refine wpAny_bind (wpAny_setField hit rfl (by simp) ?_)
    show wpAny _ _ (newExc (.type "StopIteration") [] >>= _) _ _ _
    refine wpAny_bind ?_
    simp only [newExc, newTuple]
    refine wpAny_bind (wpAny_newObj_type ?_ (by size_fits))
    refine wpAny_bind (m := firstArgMember _ _) (wpAny_of_eq (a := Value.none) (by first | rfl | (simp only [firstArgMember]; rfl)) ?_)
    refine wpAny_newObj_type ?_ (by size_fits)
    simp only [raiseNew]
    refine wpAny_bind (wpAny_handled ?_)
    first | rw [show A.in1.handled = none from hh] | rw [hh]
    refine wpAny_bind (wpAny_pure (wpAny_throw ?_))
    refine wpAny_bind (wpAny_isInstance (T := "StopIteration") (b := true) ⟨_, Heap.get?_push_size _ rfl, rfl⟩ isSubtype_stop ?_)
    exact wpAny_pure (hQ _ (((Heap.SameBut.update ..).extBut.push _).push _))
  unfold setNext
  refine wpAny_bind (wpAny_bind (wpAny_setState_of hS rfl (fresh_fits led) ?_))
  (try dsimp only)
  refine wpAny_bind (byText_ ?_)
  cases hb : w.params.followText "set-order" with
  | true =>
    rw [if_pos rfl, if_neg (by exact Bool.false_ne_true)]
    unfold setWalk
    refine wpAny_bind (wpAny_bind (wpAny_setState_of hS rfl (fresh_fits led) ?_))
    (try dsimp only)
    refine wpAny_bind (byText_ ?_)
    rw [hb, if_pos rfl]
    refine wpAny_bind (wpAny_askSetting (wpAny_pure (wpAny_pure ?_)))
    exact fin
  | false =>
    rw [if_neg Bool.false_ne_true, if_neg (by cases led <;> exact Bool.false_ne_true)]
    refine wpAny_bind (wpAny_of_eq (a := ()) (by cases led <;> rfl) ?_)
    refine wpAny_pure ?_
    cases led <;> exact fin
end
theorem for_noset {prog : Program} {w : World} {A : Around} {s : Shared} {env : Env} {x : Str} {px pos : Pos} {iter : Expr} {body : List Stmt} {S : Addr} {led : Bool} {Q : Flow → Shared → Prop} {h₀ : Heap} {m : Str → Option Value} {news : List (Addr × Obj)}
    (hh : A.handled = none) (F : Fr h₀ env.locals s.heap m) (N : News h₀ env.locals s.heap news) (hS : (S, setO led) ∈ news)
    (hiter : wpAny (model prog w) A (eval iter env) (fun v s₁ => v = .ref S ∧ ∃ tk, s₁ = { s with toks := tk }) noE s)
    (fin : ∀ h tk, Fr h₀ env.locals h m → News h₀ env.locals h news → Q .next { s with heap := h, toks := tk })
    (hs : ∀ x, foldedSetIterable iter env x = pure x) :
    wpAny (model prog w) A (exec (.For (.Name x px) iter body [] pos) env) Q noE s := by
  refine wpAny_For (wpAny_mono hiter (fun v s₁ h₁ => ?_) fun _ _ x => x) hs
  refine hideL ?_; intro gg1
  obtain ⟨rfl, tk₁, rfl⟩ := h₁
  k_unfold
  refine pyIter_noset (N _ hS).1 ?_
  have newA : h₀.get? s.heap.objs.size = none := by
    cases e : h₀.get? s.heap.objs.size with
    | none => rfl
    | some o => exact absurd (Heap.lt_size (F.keep _ _ e)) (Nat.lt_irrefl _)
  have hIL : s.heap.objs.size ≠ env.locals := by obtain ⟨oL, _, _, hL, _⟩ := F.ns; exact Nat.ne_of_gt (Heap.lt_size hL)
  refine codeAny_forLoop (R := fun r s' => match r with | .ok f => Q f s' | .error e => cameBackBy (model prog w) A env noE e s')
    (fun n s' => s' = { s with heap := s.heap.push (sitO (.ref S)), toks := tk₁ } ∧ n = 0) ?_ 0 ⟨rfl, rfl⟩
  rintro n s' ⟨rfl, rfl⟩
  refine pyNext_noset hh (Heap.get?_push_of_some _ (N _ hS).1) (Heap.get?_push_size _ rfl) fun h₁ he₁ => wpAny_execs_nil ?_
  refine fin h₁ tk₁ ⟨F.ns.at fun o e => he₁ _ o (Ne.symm hIL) (Heap.get?_push_of_some _ e), fun b o e => he₁ b o (fun z => by rw [z, newA] at e; cases e) (Heap.get?_push_of_some _ (F.keep b o e)), F.above⟩ (fun p hp => ?_)
  exact ⟨he₁ _ _ (Nat.ne_of_lt (Heap.lt_size (N p hp).1)) (Heap.get?_push_of_some _ (N p hp).1), (N p hp).2⟩
end TB9
section TF9
open PySem PySem.W PyProof.Rows PySem.Calls
set_option maxHeartbeats 8000000

theorem ct_names {w : World} {A : Around} {Q : Value → Shared → Prop} {s : Shared} {p : Program} {loose : List Str} {mean : ExcName → Option Value} {mg mb : Str → Option Value} {h₀ : Heap}
    (X : (Mine.top.heap_1_39 w.params).In h₀) (T : Top p loose mean mg mb h₀) (st : Stays h₀ s.heap) (hroom : A.depth + 40 < recursionLimit) (hh : A.handled = none)
    {q dx Sx Ld Di : Addr} {d : Str} {kvs : List (Str × Value)} (I : Ign w s.heap q dx Sx Ld Di d kvs) (IA : IgnA q dx Sx Ld Di) (n1 : h₀.get? q = none) (n2 : h₀.get? dx = none) (n3 : h₀.get? Sx = none) (n4 : h₀.get? Ld = none) (n5 : h₀.get? Di = none)
    (f m : Str) (tf tm : Tok) (hf : f.length < 1000) (hd' : d.length < 1000) (hm : valueAt kvs m = none) (hk : kvs.length ≤ 100)
    (ret : ∀ h' tk t', Kept [Di] s.heap h' → Ign w h' q dx Sx Ld Di d (stored kvs m (.int (if Txt.startswith f (d ++ Str.ofString "/") = true then 1 else 0) t')) → ∀ t2, Q (.int (if Txt.startswith f (d ++ Str.ofString "/") = true then 1 else 0) t2) { s with heap := h', toks := tk }) :
    wpAny (model PySem.Challenge.rw_aa0007_01.row.prog w) A (call (.ref 951) [.ref q, .str f tf, .str m tm]) Q noE s := by
  refine aro1 hh hroom ?_
  clear hh hroom
  intro ad af ag au hroom
  have zs : d.length + (Str.ofString "/").length ≤ sizeLine := Nat.le_trans (Nat.add_le_add (Nat.le_of_lt hd') (Nat.le_of_eq len_slash)) (by decide)
  refine hideL ?_; intro gg1
  obtain ⟨u1, u2, u3, hdx⟩ := I.hdx
  obtain ⟨led, hS⟩ := I.hS
  obtain ⟨tl, hL⟩ := I.hL
  obtain ⟨o, hD, hI⟩ := I.hD
  k_unfold
  have hq := I.hq
  have hds := I.hds
  revert X; k_fill; intro X
  k_dflt (refine' enterG (h₀ := h₀) (binds := [(Str.ofString "self", Value.ref q), (Str.ofString "filename", Value.str f tf), (Str.ofString "modulename", Value.str m tm)]) [(Di, o), (Ld, LCg.lst [.str d tl]), (Sx, { cls := .type "set", data := .set #[] 0 (SetTable.fresh 0 0 led) }), (q, instObj 954 dx), (dx, dictOf (igD w u1 u2 u3 Sx Ld Di) 3)] ?k1 ?k2 ?k3 ?k4 ?k6 ?k7 ?k8 ?k9 ?kB ?_ ?c5 ?c2 ?c3 ?c4; (case k4 => exact List.forall_mem_cons.mpr ⟨⟨hD, n5⟩, List.forall_mem_cons.mpr ⟨⟨hL, n4⟩, own_three hS hq hdx n3 n1 n2⟩⟩); ((case k1 => assumption); (case k2 => assumption); (case k3 => assumption); (case k6 => k_is); (case k7 => k_is); (case k8 => (try dsimp only); (first | exact (ch1 41 0 1 0 hroom (Eq.refl true)) | omega)); (case k9 => first | exact BindsTo.of_eq rfl | exact binds_K (Frag.In.keeps (by assumption) (by assumption)) rfl (by k_is) rfl rfl rfl); (case c5 => decide); (case kB => exact locs rfl); (case c2 => exact rfl); (case c3 => exact rfl); (case c4 => exact rfl)))
  refine hideL ?_; intro gg2
  obtain ⟨a1, a2, ⟨a3, a4, a5⟩, ⟨a6, a7, a8, a9⟩⟩ := IA
  k_unfold
  intro g h₁ Xg Tg sg kept hsz F N
  (try k_extra "en")
  ((try k_extra "rf"); (repeat' (first | (k_extra "wb") | ((k_extra "lE"); (k_extra "wo")))))
  rename News _ _ _ _ => N
  rename Fr _ _ _ _ => F
  refine wpAny_in_of (knd := PySem.strKind PySem.Challenge.rw_aa0007_01.row.prog w) (k := m) (f := valueAt kvs) (by simp [PySem.strKind, Value.isStrOf]) hds (Heap.DictOf.mapOf (Heap.dictOf_iff.mpr ⟨o, (N _ (.head _)).1, hI⟩)) ?_
  rw [hm]
  (try dsimp only)
  ((try k_extra "rf"); (repeat' (first | (k_extra "v0") | (k_extra "wn") | ((k_extra "ge"); (k_extra "ve")) | ((k_extra "gx"); (k_extra "lF"); (k_extra "vx")) | (k_extra "rq") | ((k_extra "lE"); (k_extra "lF"); (k_extra "wo")))))
  rename News _ _ _ _ => N
  rename Fr _ _ _ _ => F
  refine wpAny_inSet_of (knd := PySem.strKind PySem.Challenge.rw_aa0007_01.row.prog w) (k := m) (S := fun _ => false) (n := 0) (by simp [PySem.strKind, Value.isStrOf]) rfl ((setObjOf_fresh (knd := PySem.strKind PySem.Challenge.rw_aa0007_01.row.prog w) led).setOf (N _ (.tail _ (.tail _ (.head _)))).1 (by unfold scanBound; (first | exact (ch0 1 4096 (Eq.refl true)) | omega))) ?_
  (try dsimp only)
  ((try k_extra "rf"); (repeat' (first | (k_extra "v0") | (k_extra "wn") | ((k_extra "ge"); (k_extra "ve")) | ((k_extra "gx"); (k_extra "lF"); (k_extra "vx")) | (k_extra "rq") | ((k_extra "lF"); (k_extra "wo")))))
  rename News _ _ _ _ => N
  rename Fr _ _ _ _ => F
  refine for_noset (hs := by intro _; rfl) rfl F N (.tail _ (.tail _ (.head _))) ?_ ?_
  · ((try k_extra "rf"); (repeat' (first | (k_extra "wb") | (k_extra "wo"))))
  intro h4 tk4 F4 N4
  replace F4 : Fr g s.heap.objs.size h4 _ := F4
  replace N4 : News g s.heap.objs.size h4 _ := N4
  clear F N
  (try dsimp only)
  have same : ∀ {h h'' : Heap} {o' : Obj}, News g s.heap.objs.size h [(Di, o), (Ld, LCg.lst [.str d tl]), (Sx, setO led), (q, instObj 954 dx), (dx, dictOf (igD w u1 u2 u3 Sx Ld Di) 3)] → Heap.SameBut Di h h'' → h''.get? Di = some o' →
      News g s.heap.objs.size h'' [(Di, o'), (Ld, LCg.lst [.str d tl]), (Sx, setO led), (q, instObj 954 dx), (dx, dictOf (igD w u1 u2 u3 Sx Ld Di) 3)] := by
    intro h h'' o' N hs ho
    have e : ∀ b o, b ≠ Di → h.get? b = some o → h''.get? b = some o := fun b o hb x => (hs.2 b hb).trans x
    refine List.forall_mem_cons.mpr ⟨⟨ho, (N _ (.head _)).2⟩, List.forall_mem_cons.mpr ⟨⟨e _ _ (Nat.ne_of_lt a6) (N _ (.tail _ (.head _))).1, (N _ (.tail _ (.head _))).2⟩,
      List.forall_mem_cons.mpr ⟨⟨e _ _ (Nat.ne_of_lt a7) (N _ (.tail _ (.tail _ (.head _)))).1, (N _ (.tail _ (.tail _ (.head _)))).2⟩, List.forall_mem_cons.mpr ⟨⟨e _ _ (Nat.ne_of_lt a8) (N _ (.tail _ (.tail _ (.tail _ (.head _))))).1, (N _ (.tail _ (.tail _ (.tail _ (.head _))))).2⟩,
      List.forall_mem_cons.mpr ⟨⟨e _ _ (Nat.ne_of_lt a9) (N _ (.tail _ (.tail _ (.tail _ (.tail _ (.head _)))))).1, (N _ (.tail _ (.tail _ (.tail _ (.tail _ (.head _)))))).2⟩, List.forall_mem_nil _⟩⟩⟩⟩⟩
  have back : ∀ {h : Heap} {o' : Obj}, Stays g h → News g s.heap.objs.size h [(Di, o'), (Ld, LCg.lst [.str d tl]), (Sx, setO led), (q, instObj 954 dx), (dx, dictOf (igD w u1 u2 u3 Sx Ld Di) 3)] → Kept [Di] s.heap h := by
    intro h o' kp N b ob hb e
    have hb' : b ≠ Di := fun z => hb (z ▸ .head _)
    by_cases e1 : b = Ld
    · subst e1; rw [hL] at e; cases e; exact (N _ (.tail _ (.head _))).1
    by_cases e2 : b = Sx
    · subst e2; rw [hS] at e; cases e; exact (N _ (.tail _ (.tail _ (.head _)))).1
    by_cases e3 : b = q
    · subst e3; rw [hq] at e; cases e; exact (N _ (.tail _ (.tail _ (.tail _ (.head _))))).1
    by_cases e4 : b = dx
    · subst e4; rw [hdx] at e; cases e; exact (N _ (.tail _ (.tail _ (.tail _ (.tail _ (.head _)))))).1
    refine kept _ kp b ob ?_ e
    simp only [List.map_cons, List.map_nil, List.mem_cons, List.not_mem_nil, or_false, not_or]
    exact ⟨hb', e1, e2, e3, e4⟩
  ((try k_extra "rf"); (repeat' (first | (k_extra "wb") | ((k_extra "lQ"); (k_extra "wo")))))
  generalize hb : Txt.startswith f (d ++ Str.ofString "/") = b at ret ⊢
  cases b with
  | true =>
    rw [if_pos rfl] at ret ⊢
    ((try k_extra "rf"); (repeat' (first | (k_extra "wb") | ((k_extra "lSi"); (k_extra "wo")))))
    rename News _ _ _ _ => N0
    have N := fun p hp => N0 p (.tail _ hp)
    clear N0
    replace N : News g s.heap.objs.size _ _ := N
    (rename Fr _ _ _ _ => F; replace F : Fr g s.heap.objs.size _ _ := F; refine wpAny_setItem_pairs (knd := PySem.strKind PySem.Challenge.rw_aa0007_01.row.prog w) (k := m) (by simp [PySem.strKind, Value.isStrOf]) (Heap.dictOf_iff.mpr ⟨o, (N _ (.head _)).1, hI⟩) (fun h5 hD5 hs5 => ?_) (Nat.le_trans hk (by decide)); obtain ⟨o', ho', hI'⟩ := Heap.dictOf_iff.mp hD5; have F5 := F.change hs5 (N _ (.head _)).2.1 (N _ (.head _)).2.2; have N5 := same N hs5 ho'; clear F N hs5 hD5 ho'; (try dsimp only); ((try k_extra "rf"); (repeat' (first | (k_extra "wb") | (k_extra "wo")))); (try dsimp only); rename News _ _ _ _ => N; rename Fr _ _ _ _ => F)
    exact ret _ _ _ (back F.keep N) ⟨(N _ (.tail _ (.tail _ (.tail _ (.head _))))).1, ⟨_, _, _, (N _ (.tail _ (.tail _ (.tail _ (.tail _ (.head _)))))).1⟩, ⟨_, (N _ (.tail _ (.tail _ (.head _)))).1⟩, ⟨_, (N _ (.tail _ (.head _))).1⟩, ⟨o', (N _ (.head _)).1, hI'⟩, hds⟩ _
  | false =>
    rw [if_neg Bool.false_ne_true] at ret ⊢
    ((try k_extra "rf"); (repeat' (first | (k_extra "wb") | ((k_extra "lSi"); (k_extra "wo")))))
    rename News _ _ _ _ => N
    replace N : News g s.heap.objs.size _ _ := N
    (rename Fr _ _ _ _ => F; replace F : Fr g s.heap.objs.size _ _ := F; refine wpAny_setItem_pairs (knd := PySem.strKind PySem.Challenge.rw_aa0007_01.row.prog w) (k := m) (by simp [PySem.strKind, Value.isStrOf]) (Heap.dictOf_iff.mpr ⟨o, (N _ (.head _)).1, hI⟩) (fun h5 hD5 hs5 => ?_) (Nat.le_trans hk (by decide)); obtain ⟨o', ho', hI'⟩ := Heap.dictOf_iff.mp hD5; have F5 := F.change hs5 (N _ (.head _)).2.1 (N _ (.head _)).2.2; have N5 := same N hs5 ho'; clear F N hs5 hD5 ho'; (try dsimp only); ((try k_extra "rf"); (repeat' (first | (k_extra "wb") | (k_extra "wo")))); (try dsimp only); rename News _ _ _ _ => N; rename Fr _ _ _ _ => F)
    exact ret _ _ _ (back F.keep N) ⟨(N _ (.tail _ (.tail _ (.tail _ (.head _))))).1, ⟨_, _, _, (N _ (.tail _ (.tail _ (.tail _ (.tail _ (.head _)))))).1⟩, ⟨_, (N _ (.tail _ (.tail _ (.head _)))).1⟩, ⟨_, (N _ (.tail _ (.head _))).1⟩, ⟨o', (N _ (.head _)).1, hI'⟩, hds⟩ _
end TF9
section TR0
open PySem PySem.W PyProof.Rows PySem.Calls
set_option maxHeartbeats 4000000
noncomputable def dg (b : Bool) : Str := if b = true then Str.ofString "1" else Str.ofString "0"
theorem letK_inj {a b : Nat} (h : letK a = letK b) : a = b := by
  have : (letK a).cps = (letK b).cps := by rw [h]
  simp only [letK] at this
  have := congrArg (fun x : Array Nat => x[0]?) this
  simp at this; (first | exact (Nat.le_antisymm (lin1 2 [_, _] 0 (.v 0) (.v 1) 1 (.v 0) (.v 1) (Nat.le_of_eq this) rfl (Eq.refl true)) (lin1 2 [_, _] 0 (.v 0) (.v 1) 1 (.v 0) (.v 1) (Nat.le_of_eq this.symm) rfl (Eq.refl true))) | lia)
theorem letK_string (k : Nat) : letK k ≠ Str.ofString "<string>" := fun h => by
  have h1 := congrArg Str.length h
  have h2 : (letK k).length = 1 := rfl
  have h3 : (Str.ofString "<string>").length = 8 := by decide +kernel
  (first | exact (ch3 0 0 1 0 1 0 0 0 hC hCD z (Eq.refl true)) | exact (ch2 1 0 0 0 1 0 hlt (Nat.le_of_eq this.symm) (Eq.refl true)) | exact (ch3 821 0 0 0 1 0 2 0 z0 hC hCD (Eq.refl true)) | exact (And.intro (lin0 1 [_] (.k 5) (.a (.v 0) (.a (.a (.a (.a (.a (.k 0) (.k 1)) (.k 1)) (.k 1)) (.k 1)) (.k 1))) rfl (Eq.refl true)) (lin1 1 [_] 0 (.a (.v 0) (.a (.a (.a (.a (.a (.k 0) (.k 1)) (.k 1)) (.k 1)) (.k 1)) (.k 1))) (.k 11) 1 (.v 0) (.k 6) (Nat.min_le_left _ _) rfl (Eq.refl true))) | exact (lin1 1 [_] 0 (.a (.a (.a (.k 0) (.k 1)) (.v 0)) (.k 1)) (.k 1000) 1 (.v 0) (.k 200) this rfl (Eq.refl true)) | exact (Nat.le_antisymm (lin1 2 [_, _] 0 (.v 0) (.v 1) 1 (.v 0) (.v 1) hc3 rfl (Eq.refl true)) (lin1 2 [_, _] 0 (.v 0) (.v 1) 1 (.v 0) (.v 1) this rfl (Eq.refl true))) | exact (lin2 2 [_, _] 0 (.a (.a (.v 0) (.v 1)) (.k 1)) (.k 900) 1 (.v 1) (.k 200) 1 (.v 0) (.k 1) h1 (Nat.le_of_eq this) rfl (Eq.refl true)) | exact (ch4 0 0 0 0 1 11 1000 0 0 0 (Nat.le_of_eq h1) h2 zi h3 (Eq.refl true)) | exact (ch4 0 0 0 0 1 11 1000 0 0 0 (Nat.le_of_eq h1) h2 zi z1000 (Eq.refl true)) | omega)
noncomputable def Fresh (fs : List Nat) (i : Nat) (kvs : List (Str × Value)) : Prop := kvs.length ≤ i + 1 ∧ ∀ k ∈ fs.drop i, letK k ∉ kvs.map (·.1)
theorem fresh_zero (fs : List Nat) (v : Value) : Fresh fs 0 [(Str.ofString "<string>", v)] := ⟨Nat.le_refl _, fun k _ h => letK_string k (List.mem_singleton.mp h)⟩
theorem fresh_none {fs : List Nat} {i k : Nat} {kvs : List (Str × Value)} (h : Fresh fs i kvs) (hk : fs[i]? = some k) : valueAt kvs (letK k) = none :=
  valueAt_none_of_not_mem (h.2 k (by obtain ⟨hl, e⟩ := List.getElem?_eq_some_iff.mp hk; rw [List.drop_eq_getElem_cons hl, e]; exact .head _))
theorem fresh_succ {fs : List Nat} {i k : Nat} {kvs : List (Str × Value)} {v : Value} (h : Fresh fs i kvs) (nd : fs.Nodup) (hk : fs[i]? = some k) : Fresh fs (i + 1) (stored kvs (letK k) v) := by
  rw [stored_absent (fresh_none h hk)]
  obtain ⟨hl, e⟩ := List.getElem?_eq_some_iff.mp hk
  have hd : fs.drop i = k :: fs.drop (i + 1) := by rw [List.drop_eq_getElem_cons hl, e]
  have nd2 : (fs.drop i).Nodup := nd.sublist (List.drop_sublist _ _)
  rw [hd] at nd2
  refine ⟨by have := h.1; simp; (first | exact (ch1 0 1 0 1 this (Eq.refl true)) | omega), fun j hj => ?_⟩
  rw [List.map_append, List.mem_append]
  rintro (hm | hm)
  · exact h.2 j (by rw [hd]; exact .tail _ hj) hm
  · have : letK j = letK k := by simpa using hm
    have := letK_inj this
    subst this
    exact (List.nodup_cons.mp nd2).1 hj
theorem folL_nodup (ns : List Int) (i : Nat) : (folL ns i).Nodup := List.nodup_range.sublist List.filter_sublist
theorem filL_nodup (ns : List Int) (i : Nat) : (filL ns i).Nodup := List.nodup_range.sublist List.filter_sublist
theorem news_apart {h₀ h h' : Heap} {L : Addr} {W : List Addr} {led : List (Addr × Obj)} (k : Kept W h h') (N : News h₀ L h led) (ap : ∀ p ∈ led, p.1 ∉ W) : News h₀ L h' led := fun p hp => ⟨k _ _ (ap p hp) (N p hp).1, (N p hp).2⟩
theorem perm_rd {base h : Heap} {L : Addr} {I C D d1 d2 d3 d4 d5 : Addr × Obj} {W0 : List (Addr × Obj)} (N : News base L h (d1 :: I :: C :: D :: d2 :: d3 :: d4 :: d5 :: W0)) : News base L h (I :: C :: D :: d1 :: d2 :: d3 :: d4 :: d5 :: W0) :=
  fmc (N _ (by k_mem)) (fmc (N _ (by k_mem)) (fmc (N _ (by k_mem)) (fmc (N _ (.head _)) (fun q hq => N q (.tail _ (.tail _ (.tail _ (.tail _ hq))))))))
theorem fst_lt {led : List (Addr × Obj)} {d : Addr} (h : ∀ p ∈ led, p.1 < d) : ∀ a ∈ led.map Prod.fst, @LT.lt Nat _ a d := fun a ha => by
  refine hideL ?_; intro gg1
  obtain ⟨p, hp, rfl⟩ := List.mem_map.mp ha
  k_unfold
  exact h p hp
theorem apart_di {base h : Heap} {L Di dx : Addr} {d0 x1 x2 x3 x4 : Addr × Obj} {led : List (Addr × Obj)} (_ : News base L h (d0 :: x1 :: x2 :: x3 :: x4 :: led)) (h1 : @Ne Nat x1.1 Di) (h2 : @Ne Nat x2.1 Di) (h3 : @Ne Nat x3.1 Di) (h4 : @Ne Nat x4.1 Di)
    (ho : ∀ a ∈ led.map Prod.fst, @LT.lt Nat _ a dx) (hd : @LT.lt Nat _ dx Di) : ∀ p ∈ x1 :: x2 :: x3 :: x4 :: led, p.1 ∉ [Di] := by
  have one : ∀ b : Addr, @Ne Nat b Di → b ∉ [Di] := fun b hb z => hb (List.mem_singleton.mp z)
  refine List.forall_mem_cons.mpr ⟨one _ h1, List.forall_mem_cons.mpr ⟨one _ h2, List.forall_mem_cons.mpr ⟨one _ h3, List.forall_mem_cons.mpr ⟨one _ h4, fun p hp => one _ (Nat.ne_of_lt (Nat.lt_trans (ho p.1 (List.mem_map_of_mem hp)) hd))⟩⟩⟩⟩
theorem dg_small (b : Bool) : (dg b).length ≤ 1 := by cases b <;> decide +kernel
end TR0
section TB6
open PySem PySem.W PySem.Calls
set_option maxHeartbeats 4000000
noncomputable abbrev lst (l : List (Str × Tok)) (n : Nat) : Obj := { cls := .type "list", data := .seq (strValues l).toArray n }
theorem sv_get (l : List (Str × Tok)) (i : Nat) : (strValues l).toArray[((i : Nat) : Int).toNat]? = l[i]?.map fun c => Value.str c.1 c.2 := by
  simp [strValues]
theorem sv_size (l : List (Str × Tok)) : (strValues l).toArray.size = l.length := by simp [strValues]
theorem isub_list : isSubtype (.type "list") (.type "list") = pure true := by rw [isSubtype_type]; kernel_rfl
open AutoSeq1 (wpAny_loadPart')

theorem lt_loop (l b : Addr) (la lb : List (Str × Tok)) (n n2 : Nat) (k : Nat) :
    ∀ i : Nat, la.length - i = k → i ≤ la.length → i ≤ lb.length → Meets (Builtin.«list.__eq__.loop» ⟨[.ref l, .ref b, rawInt i, rawInt 0], []⟩)
      (fun _ R s => s.heap.get? l = some (lst la n) ∧ s.heap.get? b = some (lst lb n2) ∧ R (.ok (.ret (.bool (ltB ((la.drop i).map (·.1)) ((lb.drop i).map (·.1)))))) s) := by
  induction k with
  | zero =>
    intro i hk hi1 hi2 prog w A R s h
    obtain ⟨hp, g, d, tk, os⟩ := s; obtain ⟨hl, hb, h⟩ := h
    wp_walk using wpAny_loadPart' hl, wpAny_loadPart' hb
    rw [sv_get la i, (List.getElem?_eq_none (by (first | exact (lin2 3 [_, _, _] 0 (.v 0) (.v 1) 1 (.v 2) (.k 0) 1 (.v 0) (.a (.v 2) (.v 1)) (Nat.le_of_eq hk) (Nat.le_add_of_sub_le (Nat.le_refl _)) rfl (Eq.refl true)) | omega)) : la[i]? = none)]
    wp_walk using wpAny_loadPart' hl, wpAny_loadPart' hb
    have hil : i = la.length := by (first | exact (Nat.le_antisymm (lin1 2 [_, _] 0 (.v 0) (.v 1) 1 (.v 0) (.v 1) hi1 rfl (Eq.refl true)) (lin2 3 [_, _, _] 0 (.v 0) (.v 1) 1 (.v 2) (.k 0) 1 (.v 0) (.a (.v 2) (.v 1)) (Nat.le_of_eq hk) (Nat.le_add_of_sub_le (Nat.le_refl _)) rfl (Eq.refl true))) | omega)
    subst hil
    rw [List.drop_length] at h
    show R (.ok (.ret (.bool (decide ((strValues la).toArray.size < (strValues lb).toArray.size))))) _
    rw [sv_size, sv_size]
    have e : decide (la.length < lb.length) = ltB (List.map (fun x => x.fst) ([] : List (Str × Tok))) (List.map (fun x => x.fst) (List.drop la.length lb)) := by
      show _ = decide (0 < (List.map (fun x => x.fst) (List.drop la.length lb)).length)
      simp; (first | exact (ch1 0 0 0 0 hi2 (Eq.refl true)) | exact (Nat.ne_of_gt (lin1 2 [_, _] 0 (.a (.k 0) (.k 1)) (.v 0) 1 (.a (.k 1) (.v 1)) (.v 0) (Nat.le_of_eq hpl.symm) rfl (Eq.refl true))) | exact (Nat.ne_of_gt (lin1 1 [_] 0 (.a (.k 0) (.k 1)) (.v 0) 1 (.k 1) (.v 0) (Nat.pos_of_ne_zero this) rfl (Eq.refl true))) | omega)
    rw [e]; exact h
  | succ k ih =>
    intro i hk hi1 hi2 prog w A R s h
    obtain ⟨hp, g, d, tk, os⟩ := s; obtain ⟨hl, hb, h⟩ := h
    wp_walk using wpAny_loadPart' hl, wpAny_loadPart' hb
    have hlt : i < la.length := by (first | exact (lin2 4 [_, _, _, _] 0 (.a (.v 0) (.k 1)) (.v 1) 1 (.a (.v 2) (.k 1)) (.v 3) 1 (.a (.v 3) (.v 0)) (.v 1) (Nat.le_of_eq hk.symm) (Nat.le_of_eq (Nat.sub_add_cancel (lin1 2 [_, _] 0 (.v 0) (.v 1) 1 (.v 0) (.v 1) hi1 rfl (Eq.refl true)))) rfl (Eq.refl true)) | omega)
    rw [sv_get la i, sv_get lb i, List.getElem?_eq_getElem hlt]
    rw [List.drop_eq_getElem_cons hlt, List.map_cons] at h
    rcases Nat.lt_or_ge i lb.length with hlt2 | hge
    · rw [List.getElem?_eq_getElem hlt2]
      rw [List.drop_eq_getElem_cons hlt2, List.map_cons] at h
      rw [show ltB (la[i].fst :: (la.drop (i + 1)).map (·.1)) (lb[i].fst :: (lb.drop (i + 1)).map (·.1)) = if la[i].fst = lb[i].fst then ltB ((la.drop (i + 1)).map (·.1)) ((lb.drop (i + 1)).map (·.1)) else decide (la[i].fst.cps.toList < lb[i].fst.cps.toList) from rfl] at h
      refine wpAny_bind (SeqAt.EqAt.str_str la[i].1 la[i].2 lb[i].1 lb[i].2 prog w _ _ ?_)
      have hc : ((i : Int) + 1) = ((i + 1 : Nat) : Int) := by push_cast; rfl
      by_cases he : la[i].1 = lb[i].1
      · rw [if_pos he] at h
        rw [if_pos (by rw [he]; exact beq_self_eq_true _), hc]
        exact wpAny_pure ⟨plainId_quiet MeetsSeq3.plain_eq_loop _, codeAny_builtin MeetsSeq3.entry_eq_loop (by
          rw [Around.under_plainId MeetsSeq3.plain_eq_loop _]
          exact ih (i + 1) (by (first | exact (Nat.le_antisymm (lin3 5 [_, _, _, _, _] 0 (.v 0) (.v 1) 1 (.v 2) (.a (.v 1) (.k 1)) 1 (.a (.v 0) (.a (.v 3) (.k 1))) (.v 4) 1 (.v 4) (.a (.v 2) (.v 3)) (Nat.le_of_eq hk) (Nat.le_of_eq (Nat.sub_add_cancel (lin1 2 [_, _] 0 (.a (.v 0) (.k 1)) (.v 1) 1 (.a (.v 0) (.k 1)) (.v 1) hlt rfl (Eq.refl true)))) (Nat.le_add_of_sub_le (Nat.le_refl _)) rfl (Eq.refl true)) (lin3 5 [_, _, _, _, _] 0 (.v 0) (.v 1) 1 (.a (.v 0) (.k 1)) (.v 2) 1 (.v 3) (.a (.v 1) (.a (.v 4) (.k 1))) 1 (.a (.v 2) (.v 4)) (.v 3) (Nat.le_of_eq hk.symm) (Nat.le_add_of_sub_le (Nat.le_refl _)) (Nat.le_of_eq (Nat.sub_add_cancel (lin1 2 [_, _] 0 (.v 0) (.v 1) 1 (.a (.v 0) (.k 1)) (.v 1) hlt rfl (Eq.refl true)))) rfl (Eq.refl true))) | omega)) hlt hlt2 prog w A R _ ⟨hl, hb, h⟩)⟩
      · rw [if_neg he] at h
        rw [if_neg (fun z => he (eq_of_beq z))]
        wp_walk using wpAny_loadPart' hl, wpAny_loadPart' hb
        rw [sv_get la i, sv_get lb i, List.getElem?_eq_getElem hlt, List.getElem?_eq_getElem hlt2]
        refine wpAny_bind (richCompare_gives (op := .Lt) (typeIs_str _ _ _) (typeIs_str _ _ _) F.slot_str_lt F.entry_str_lt (F.args_str_lt_2 _ _) (gives_str_lt _ _ _ _) (fun z => nomatch z) ?_)
        exact wpAny_pure h
    · have hn : lb[i]? = none := List.getElem?_eq_none hge
      rw [hn]
      rw [List.drop_of_length_le hge] at h
      wp_walk using wpAny_loadPart' hl, wpAny_loadPart' hb
      show R (.ok (.ret (.bool (decide ((strValues la).toArray.size < (strValues lb).toArray.size))))) _
      rw [sv_size, sv_size, show decide (la.length < lb.length) = false from by simp; (first | exact (ch2 0 0 0 0 0 0 hge hi1 (Eq.refl true)) | omega)]
      exact h

theorem lt_list (l b : Addr) (la lb : List (Str × Tok)) (n n2 : Nat) : Meets (Builtin.«list.__lt__» ⟨[.ref l, .ref b], []⟩)
      (fun _ R s => s.heap.get? l = some (lst la n) ∧ s.heap.get? b = some (lst lb n2) ∧ R (.ok (.ret (.bool (ltB (la.map (·.1)) (lb.map (·.1)))))) s) := by
  intro prog w A R s h
  obtain ⟨hp, g, d, tk, os⟩ := s; obtain ⟨hl, hb, h⟩ := h
  have f3 := isub_list
  wp_walk using wpAny_loadPart' hl, wpAny_loadPart' hb
  exact ⟨plainId_quiet MeetsSeq3.plain_eq_loop _, codeAny_builtin MeetsSeq3.entry_eq_loop (by
    rw [Around.under_plainId MeetsSeq3.plain_eq_loop _]
    exact lt_loop l b la lb n n2 _ 0 rfl (Nat.zero_le _) (Nat.zero_le _) prog w A R _ ⟨hl, hb, h⟩)⟩
theorem rc_lt {prog : Program} {w : World} {A : Around} {E : Value → Shared → Prop} {s : Shared} {Q : Value → Shared → Prop} {l b : Addr} {la lb : List (Str × Tok)} {n n2 : Nat} (hl : s.heap.get? l = some (lst la n)) (hb : s.heap.get? b = some (lst lb n2)) (hu : A.units < cLine)
    (h : Q (.bool (ltB (la.map (·.1)) (lb.map (·.1)))) s) : wpAny (model prog w) A (richCompare .Lt (.ref l) (.ref b)) Q E s :=
  richCompare_meets_room (op := .Lt) ⟨_, hl, rfl⟩ ⟨_, hb, rfl⟩ F.slot_list_lt F.entry_list_lt (F.args_list_lt_2 _ _) (lt_list l b la lb n n2) ⟨hl, hb, (⟨(fun z => nomatch z), h⟩ : Value.bool _ ≠ Value.notImplemented ∧ Q _ s)⟩ hu

theorem gt_loop (l b : Addr) (la lb : List (Str × Tok)) (n n2 : Nat) (k : Nat) :
    ∀ i : Nat, la.length - i = k → i ≤ la.length → i ≤ lb.length → Meets (Builtin.«list.__eq__.loop» ⟨[.ref l, .ref b, rawInt i, rawInt 4], []⟩)
      (fun _ R s => s.heap.get? l = some (lst la n) ∧ s.heap.get? b = some (lst lb n2) ∧ R (.ok (.ret (.bool (gtB ((la.drop i).map (·.1)) ((lb.drop i).map (·.1)))))) s) := by
  induction k with
  | zero =>
    intro i hk hi1 hi2 prog w A R s h
    obtain ⟨hp, g, d, tk, os⟩ := s; obtain ⟨hl, hb, h⟩ := h
    wp_walk using wpAny_loadPart' hl, wpAny_loadPart' hb
    rw [sv_get la i, (List.getElem?_eq_none (by (first | exact (lin2 3 [_, _, _] 0 (.v 0) (.v 1) 1 (.v 2) (.k 0) 1 (.v 0) (.a (.v 2) (.v 1)) (Nat.le_of_eq hk) (Nat.le_add_of_sub_le (Nat.le_refl _)) rfl (Eq.refl true)) | omega)) : la[i]? = none)]
    wp_walk using wpAny_loadPart' hl, wpAny_loadPart' hb
    have hil : i = la.length := by (first | exact (Nat.le_antisymm (lin1 2 [_, _] 0 (.v 0) (.v 1) 1 (.v 0) (.v 1) hi1 rfl (Eq.refl true)) (lin2 3 [_, _, _] 0 (.v 0) (.v 1) 1 (.v 2) (.k 0) 1 (.v 0) (.a (.v 2) (.v 1)) (Nat.le_of_eq hk) (Nat.le_add_of_sub_le (Nat.le_refl _)) rfl (Eq.refl true))) | omega)
    subst hil
    rw [List.drop_length] at h
    show R (.ok (.ret (.bool (decide ((strValues la).toArray.size > (strValues lb).toArray.size))))) _
    rw [sv_size, sv_size]
    have e : decide (la.length > lb.length) = gtB (List.map (fun x => x.fst) ([] : List (Str × Tok))) (List.map (fun x => x.fst) (List.drop la.length lb)) := by
      show _ = false
      simp; (first | exact (ch1 0 0 0 0 hi2 (Eq.refl true)) | exact (Nat.ne_of_gt (lin1 2 [_, _] 0 (.a (.k 0) (.k 1)) (.v 0) 1 (.a (.k 1) (.v 1)) (.v 0) (Nat.le_of_eq hpl.symm) rfl (Eq.refl true))) | exact (Nat.ne_of_gt (lin1 1 [_] 0 (.a (.k 0) (.k 1)) (.v 0) 1 (.k 1) (.v 0) (Nat.pos_of_ne_zero this) rfl (Eq.refl true))) | omega)
    rw [e]; exact h
  | succ k ih =>
    intro i hk hi1 hi2 prog w A R s h
    obtain ⟨hp, g, d, tk, os⟩ := s; obtain ⟨hl, hb, h⟩ := h
    wp_walk using wpAny_loadPart' hl, wpAny_loadPart' hb
    have hlt : i < la.length := by (first | exact (lin2 4 [_, _, _, _] 0 (.a (.v 0) (.k 1)) (.v 1) 1 (.a (.v 2) (.k 1)) (.v 3) 1 (.a (.v 3) (.v 0)) (.v 1) (Nat.le_of_eq hk.symm) (Nat.le_of_eq (Nat.sub_add_cancel (lin1 2 [_, _] 0 (.v 0) (.v 1) 1 (.v 0) (.v 1) hi1 rfl (Eq.refl true)))) rfl (Eq.refl true)) | omega)
    rw [sv_get la i, sv_get lb i, List.getElem?_eq_getElem hlt]
    rw [List.drop_eq_getElem_cons hlt, List.map_cons] at h
    rcases Nat.lt_or_ge i lb.length with hlt2 | hge
    · rw [List.getElem?_eq_getElem hlt2]
      rw [List.drop_eq_getElem_cons hlt2, List.map_cons] at h
      rw [show gtB (la[i].fst :: (la.drop (i + 1)).map (·.1)) (lb[i].fst :: (lb.drop (i + 1)).map (·.1)) = if la[i].fst = lb[i].fst then gtB ((la.drop (i + 1)).map (·.1)) ((lb.drop (i + 1)).map (·.1)) else decide (lb[i].fst.cps.toList < la[i].fst.cps.toList) from rfl] at h
      refine wpAny_bind (SeqAt.EqAt.str_str la[i].1 la[i].2 lb[i].1 lb[i].2 prog w _ _ ?_)
      have hc : ((i : Int) + 1) = ((i + 1 : Nat) : Int) := by push_cast; rfl
      by_cases he : la[i].1 = lb[i].1
      · rw [if_pos he] at h
        rw [if_pos (by rw [he]; exact beq_self_eq_true _), hc]
        exact wpAny_pure ⟨plainId_quiet MeetsSeq3.plain_eq_loop _, codeAny_builtin MeetsSeq3.entry_eq_loop (by
          rw [Around.under_plainId MeetsSeq3.plain_eq_loop _]
          exact ih (i + 1) (by (first | exact (Nat.le_antisymm (lin3 5 [_, _, _, _, _] 0 (.v 0) (.v 1) 1 (.v 2) (.a (.v 1) (.k 1)) 1 (.a (.v 0) (.a (.v 3) (.k 1))) (.v 4) 1 (.v 4) (.a (.v 2) (.v 3)) (Nat.le_of_eq hk) (Nat.le_of_eq (Nat.sub_add_cancel (lin1 2 [_, _] 0 (.a (.v 0) (.k 1)) (.v 1) 1 (.a (.v 0) (.k 1)) (.v 1) hlt rfl (Eq.refl true)))) (Nat.le_add_of_sub_le (Nat.le_refl _)) rfl (Eq.refl true)) (lin3 5 [_, _, _, _, _] 0 (.v 0) (.v 1) 1 (.a (.v 0) (.k 1)) (.v 2) 1 (.v 3) (.a (.v 1) (.a (.v 4) (.k 1))) 1 (.a (.v 2) (.v 4)) (.v 3) (Nat.le_of_eq hk.symm) (Nat.le_add_of_sub_le (Nat.le_refl _)) (Nat.le_of_eq (Nat.sub_add_cancel (lin1 2 [_, _] 0 (.v 0) (.v 1) 1 (.a (.v 0) (.k 1)) (.v 1) hlt rfl (Eq.refl true)))) rfl (Eq.refl true))) | omega)) hlt hlt2 prog w A R _ ⟨hl, hb, h⟩)⟩
      · rw [if_neg he] at h
        rw [if_neg (fun z => he (eq_of_beq z))]
        wp_walk using wpAny_loadPart' hl, wpAny_loadPart' hb
        rw [sv_get la i, sv_get lb i, List.getElem?_eq_getElem hlt, List.getElem?_eq_getElem hlt2]
        refine wpAny_bind (richCompare_gives (op := .Gt) (typeIs_str _ _ _) (typeIs_str _ _ _) F.slot_str_gt F.entry_str_gt (F.args_str_gt_2 _ _) (gives_str_gt _ _ _ _) (fun z => nomatch z) ?_)
        exact wpAny_pure h
    · have hn : lb[i]? = none := List.getElem?_eq_none hge
      rw [hn]
      rw [List.drop_of_length_le hge] at h
      wp_walk using wpAny_loadPart' hl, wpAny_loadPart' hb
      show R (.ok (.ret (.bool (decide ((strValues la).toArray.size > (strValues lb).toArray.size))))) _
      rw [sv_size, sv_size, show decide (la.length > lb.length) = true from by simp; (first | exact (ch2 0 0 1 0 1 0 hge hlt (Eq.refl true)) | omega)]
      exact h

theorem gt_list (l b : Addr) (la lb : List (Str × Tok)) (n n2 : Nat) : Meets (Builtin.«list.__gt__» ⟨[.ref l, .ref b], []⟩)
      (fun _ R s => s.heap.get? l = some (lst la n) ∧ s.heap.get? b = some (lst lb n2) ∧ R (.ok (.ret (.bool (gtB (la.map (·.1)) (lb.map (·.1)))))) s) := by
  intro prog w A R s h
  obtain ⟨hp, g, d, tk, os⟩ := s; obtain ⟨hl, hb, h⟩ := h
  have f3 := isub_list
  wp_walk using wpAny_loadPart' hl, wpAny_loadPart' hb
  exact ⟨plainId_quiet MeetsSeq3.plain_eq_loop _, codeAny_builtin MeetsSeq3.entry_eq_loop (by
    rw [Around.under_plainId MeetsSeq3.plain_eq_loop _]
    exact gt_loop l b la lb n n2 _ 0 rfl (Nat.zero_le _) (Nat.zero_le _) prog w A R _ ⟨hl, hb, h⟩)⟩
theorem rc_gt {prog : Program} {w : World} {A : Around} {E : Value → Shared → Prop} {s : Shared} {Q : Value → Shared → Prop} {l b : Addr} {la lb : List (Str × Tok)} {n n2 : Nat} (hl : s.heap.get? l = some (lst la n)) (hb : s.heap.get? b = some (lst lb n2)) (hu : A.units < cLine)
    (h : Q (.bool (gtB (la.map (·.1)) (lb.map (·.1)))) s) : wpAny (model prog w) A (richCompare .Gt (.ref l) (.ref b)) Q E s :=
  richCompare_meets_room (op := .Gt) ⟨_, hl, rfl⟩ ⟨_, hb, rfl⟩ F.slot_list_gt F.entry_list_gt (F.args_list_gt_2 _ _) (gt_list l b la lb n n2) ⟨hl, hb, (⟨(fun z => nomatch z), h⟩ : Value.bool _ ≠ Value.notImplemented ∧ Q _ s)⟩ hu
end TB6
section TG0
open PySem PySem.W PyProof.Rows PySem.Calls SeqAt
set_option maxHeartbeats 4000000
theorem all_texts : ∀ (l1 l2 : List (Str × Tok)), l1.length = l2.length → ((List.range l1.length).all fun j => (((l1.map (·.1))[j]?).getD (Str.ofString "") == ((l2.map (·.1))[j]?).getD (Str.ofString ""))) = decide (l1.map (·.1) = l2.map (·.1)) := by
  intro l1 l2 hl
  rw [Bool.eq_iff_iff, List.all_eq_true, decide_eq_true_iff]
  constructor
  · intro h
    refine List.ext_getElem (by simpa using hl) fun i h1 h2 => ?_
    have := h i (List.mem_range.mpr (by simpa using h1))
    rw [List.getElem?_eq_getElem h1, List.getElem?_eq_getElem h2] at this
    exact eq_of_beq this
  · intro h i _
    rw [h]; exact beq_self_eq_true _
section
variable {prog : Program} {w : World} {A : Around} {E : Value → Shared → Prop} {s : Shared}
theorem eq_texts {a b : Addr} {l1 l2 : List (Str × Tok)} {Q : Value → Shared → Prop} (ha : s.heap.IsList a (strValues l1).toArray) (hb : s.heap.IsList b (strValues l2).toArray) (hu : A.units < cLine)
    (h : Q (.bool (decide (l1.map (·.1) = l2.map (·.1)))) s) : wpAny (model prog w) A (compareOp .Eq (.ref a) (.ref b)) Q E s := by
  by_cases hz : l1.length = l2.length
  · refine eq_listAt (e := fun j => (((l1.map (·.1))[j]?).getD (Str.ofString "") == ((l2.map (·.1))[j]?).getD (Str.ofString ""))) ha hb (by rw [sv_size, sv_size, hz]) hu ?_ ?_
    · intro j h1 h2
      rw [sv_size] at h1 h2
      have e1 : (strValues l1).toArray[j] = Value.str l1[j].1 l1[j].2 := by simp [strValues]
      have e2 : (strValues l2).toArray[j] = Value.str l2[j].1 l2[j].2 := by simp [strValues]
      rw [e1, e2, List.getElem?_map, List.getElem?_map, List.getElem?_eq_getElem h1, List.getElem?_eq_getElem h2]
      exact EqAt.str_str _ _ _ _
    · rw [sv_size, all_texts l1 l2 hz]
      exact h
  · refine eq_list_lengthsAt ha hb ?_ hu ?_
    · rw [sv_size, sv_size]; simpa using hz
    · have : decide (l1.map (·.1) = l2.map (·.1)) = false := decide_eq_false fun e => hz (by simpa using congrArg List.length e)
      rw [this] at h; exact h
theorem ne_texts {a b : Addr} {l1 l2 : List (Str × Tok)} {Q : Value → Shared → Prop} (ha : s.heap.IsList a (strValues l1).toArray) (hb : s.heap.IsList b (strValues l2).toArray) (hu : A.units < cLine)
    (h : Q (.bool (!decide (l1.map (·.1) = l2.map (·.1)))) s) : wpAny (model prog w) A (compareOp .NotEq (.ref a) (.ref b)) Q E s := by
  by_cases hz : l1.length = l2.length
  · refine RcNeAt.lists (e := fun j => (((l1.map (·.1))[j]?).getD (Str.ofString "") == ((l2.map (·.1))[j]?).getD (Str.ofString ""))) ha hb (by rw [sv_size, sv_size, hz]) hu ?_ prog w E Q ?_
    · intro j h1 h2
      rw [sv_size] at h1 h2
      have e1 : (strValues l1).toArray[j] = Value.str l1[j].1 l1[j].2 := by simp [strValues]
      have e2 : (strValues l2).toArray[j] = Value.str l2[j].1 l2[j].2 := by simp [strValues]
      rw [e1, e2, List.getElem?_map, List.getElem?_map, List.getElem?_eq_getElem h1, List.getElem?_eq_getElem h2]
      exact EqAt.str_str _ _ _ _
    · rw [sv_size, all_texts l1 l2 hz]
      exact h
  · refine RcNeAt.lists_lengths ha hb ?_ hu prog w E Q ?_
    · rw [sv_size, sv_size]; simpa using hz
    · have : decide (l1.map (·.1) = l2.map (·.1)) = false := decide_eq_false fun e => hz (by simpa using congrArg List.length e)
      rw [this] at h; exact h
theorem eq_textsN {a b : Addr} {l1 l2 : List (Str × Tok)} {P D : List Str} {Q : Value → Shared → Prop} (ha : s.heap.IsList a (strValues l1).toArray) (hb : s.heap.IsList b (strValues l2).toArray) (hP : l1.map (·.1) = P) (hD : l2.map (·.1) = D) (hu : A.units < cLine)
    (h : Q (.bool (decide (P = D))) s) : wpAny (model prog w) A (compareOp .Eq (.ref a) (.ref b)) Q E s := by
  subst hP; subst hD; exact eq_texts ha hb hu h
theorem ne_textsN {a b : Addr} {l1 l2 : List (Str × Tok)} {P D : List Str} {Q : Value → Shared → Prop} (ha : s.heap.IsList a (strValues l1).toArray) (hb : s.heap.IsList b (strValues l2).toArray) (hP : l1.map (·.1) = P) (hD : l2.map (·.1) = D) (hu : A.units < cLine)
    (h : Q (.bool (!decide (P = D))) s) : wpAny (model prog w) A (compareOp .NotEq (.ref a) (.ref b)) Q E s := by
  subst hP; subst hD; exact ne_texts ha hb hu h
end
end TG0
section TB7
open PySem PySem.W PySem.Calls
set_option maxHeartbeats 4000000

theorem min2 {prog : Program} {w : World} {A : Around} {E : Value → Shared → Prop} {s : Shared} {Q : Value → Shared → Prop} {m : Addr} {vx vy : Value} {n : Nat} {c : Bool} (hh : A.handled = none) (hm : s.heap.get? m = some { cls := .type "list", data := .seq #[vx, vy] n })
    (hcmp : ∀ (s' : Shared) (Q' : Value → Shared → Prop) (E' : Value → Shared → Prop), (∀ b o, s.heap.get? b = some o → s'.heap.get? b = some o) → Q' (.bool c) s' → wpAny (model prog w) A.in1 (richCompare .Lt vy vx) Q' E' s')
    (ret : ∀ h' tk, (∀ b o, s.heap.get? b = some o → h'.get? b = some o) → Q (if c then vy else vx) { s with heap := h', toks := tk }) :
    wpAny (model prog w) A (call (.builtin "min") [.ref m]) Q E s := by
  have hname : (toString "min" ++ toString ".loop" : String) = "min.loop" := by decide
  refine call_function_tree F.kind_min F.plain_min F.entry_min (F.args_min1 _) ?_
  show wpAny _ A.in1 (Builtin.Builtins.bindParams "min" ["key", "default"] 0 ⟨[], []⟩ >>= _) _ _ s
  refine wpAny_bind (wpAny_of_eq (show Builtin.Builtins.bindParams "min" ["key", "default"] 0 ⟨[], []⟩ = pure [none, none] from rfl) ?_)
  refine wpAny_bind (wpAny_pure ?_)
  have hl0 : s.heap.IsList m #[vx, vy] := ⟨_, hm, rfl, _, rfl⟩
  refine wpAny_bind (wpAny_pyIter_list hl0 ?_)
  refine wpAny_bind (wpAny_newObj_type ?_)
  rw [hname]
  generalize hI : s.heap.objs.size = I
  have hnew : ∀ b o, s.heap.get? b = some o → b < I := fun b o e => hI ▸ Heap.lt_size e
  generalize hh0 : (s.heap.push { cls := .type "list_iterator", data := .fields #[.ref m, .int 0 0] }) = h0
  have k0 : ∀ b o, s.heap.get? b = some o → h0.get? b = some o := fun b o e => by rw [← hh0]; exact Heap.get?_push_of_some _ e
  have i0 : h0.get? I = some { cls := .type "list_iterator", data := .fields #[.ref m, .int 0 0] } := by rw [← hh0, ← hI]; exact Heap.get?_push_size _ rfl
  show _
  generalize hS : h0.objs.size = S
  have hIS : I < S := hS ▸ Heap.lt_size i0
  generalize hh1 : h0.push { cls := .type "list", data := .seq ([] : List Value).toArray } = h1
  have k1 : ∀ b o, s.heap.get? b = some o → h1.get? b = some o := fun b o e => by rw [← hh1]; exact Heap.get?_push_of_some _ (k0 b o e)
  have i1 : h1.IsListIter I m 0 := ⟨_, by rw [← hh1]; exact Heap.get?_push_of_some _ i0, rfl, rfl⟩
  have s1 : h1.get? S = some { cls := .type "list", data := .seq ([] : List Value).toArray } := by rw [← hh1, ← hS]; exact Heap.get?_push_size _ rfl
  -- first turn
  refine wpAny_pure ⟨plainId_quiet F.plain_min_loop _, codeAny_builtin F.entry_min_loop ?_⟩
  rw [Around.under_plainId F.plain_min_loop _]
  show wpAny _ A.in1 (seqItems? (.ref S) >>= _) _ _ _
  refine wpAny_bind (wpAny_seqItems s1 rfl ?_)
  show wpAny _ A.in1 (tryCatch (pyNext (.ref I)) _ >>= _) _ _ _
  have hl1 : h1.IsList m #[vx, vy] := ⟨_, k1 _ _ hm, rfl, _, rfl⟩
  refine wpAny_bind (wpAny_tryCatch (wpAny_pyNext_list_item i1 hl1 (i := 0) (x := vx) rfl fun h2 i2 sb2 => ?_))
  have k2 : ∀ b o, s.heap.get? b = some o → h2.get? b = some o := fun b o e => (sb2.2 b (Nat.ne_of_lt (hnew b o e))).trans (k1 b o e)
  have s2 := (sb2.2 S (Nat.ne_of_gt hIS)).trans s1
  show wpAny _ A.in1 (updateSeq S (fun _ => #[vx, vx]) >>= _) _ _ _
  refine wpAny_bind ?_
  refine wpAny_updateSeq s2 rfl ?_
  rw [hname]
  have s3 := Heap.get?_update_self (Obj.mapSeq (fun _ => #[vx, vx])) s2 rfl
  have o3 : ∀ b o, b ≠ S → h2.get? b = some o → (h2.update S (Obj.mapSeq (fun _ => #[vx, vx]))).get? b = some o := fun b o hb e => (Heap.get?_update_other _ _ (Ne.symm hb)).trans e
  have hSn : ∀ b o, s.heap.get? b = some o → b ≠ S := fun b o e => Nat.ne_of_lt (Nat.lt_trans (hnew b o e) hIS)
  generalize h2.update S (Obj.mapSeq (fun _ => #[vx, vx])) = h3 at s3 o3
  have k3 : ∀ b o, s.heap.get? b = some o → h3.get? b = some o := fun b o e => o3 b o (hSn b o e) (k2 b o e)
  have i3 : h3.IsListIter I m 1 := by obtain ⟨oi, hoi, hc, hd⟩ := i2; exact ⟨oi, o3 _ _ (Nat.ne_of_lt hIS) hoi, hc, hd⟩
  -- second turn
  refine wpAny_pure ⟨plainId_quiet F.plain_min_loop _, codeAny_builtin F.entry_min_loop ?_⟩
  rw [Around.under_plainId F.plain_min_loop _]
  show wpAny _ A.in1 (seqItems? (.ref S) >>= _) _ _ _
  refine wpAny_bind (wpAny_seqItems s3 rfl ?_)
  show wpAny _ A.in1 (tryCatch (pyNext (.ref I)) _ >>= _) _ _ _
  have hl3 : h3.IsList m #[vx, vy] := ⟨_, k3 _ _ hm, rfl, _, rfl⟩
  refine wpAny_bind (wpAny_tryCatch (wpAny_pyNext_list_item i3 hl3 (i := 1) (x := vy) rfl fun h4 i4 sb4 => ?_))
  have k4 : ∀ b o, s.heap.get? b = some o → h4.get? b = some o := fun b o e => (sb4.2 b (Nat.ne_of_lt (hnew b o e))).trans (k3 b o e)
  have s4 := (sb4.2 S (Nat.ne_of_gt hIS)).trans s3
  show wpAny _ A.in1 (tryCatch (holding [vy, vy] (richCompare .Lt vy vx >>= _)) _ >>= _) _ _ _
  refine wpAny_bind (wpAny_tryCatch (wpAny_holding (wpAny_bind (hcmp _ _ _ k4 ?_))))
  refine wpAny_bind (wpAny_holding (wpAny_truthy_bool ?_))
  refine wpAny_bind (wpAny_letGo (wpAny_pure ?_))
  -- third turn, from any heap
  have last : ∀ (h5 : Heap) (v : Value) (tk : Nat) (cc : Nat), (∀ b o, s.heap.get? b = some o → h5.get? b = some o) → h5.IsListIter I m 2 → h5.get? S = some { cls := .type "list", data := .seq #[v, v] cc } → v = (if c then vy else vx) →
      codeAny (model prog w) A (.builtin "min.loop" ⟨[.ref I, .none, .ref S], []⟩) (fun r s' => match r with | .ok (.ret v) => Q v s' | .ok _ => False | .error e => E e s') { s with heap := h5, toks := tk } := by
    intro h5 v tk cc k5 i5 s5 hv
    refine codeAny_builtin F.entry_min_loop ?_
    rw [Around.under_plainId F.plain_min_loop _]
    show wpAny _ A.in1 (seqItems? (.ref S) >>= _) _ _ _
    refine wpAny_bind (wpAny_seqItems s5 rfl ?_)
    show wpAny _ A.in1 (tryCatch (pyNext (.ref I)) _ >>= _) _ _ _
    have hl5 : h5.IsList m #[vx, vy] := ⟨_, k5 _ _ hm, rfl, _, rfl⟩
    refine wpAny_bind (wpAny_tryCatch (wpAny_pyNext_list_end hh i5 hl5 (i := 2) rfl fun h6 eb6 => ?_))
    have k6 : ∀ b o, s.heap.get? b = some o → h6.get? b = some o := fun b o e => eb6 b o (Nat.ne_of_lt (hnew b o e)) (k5 b o e)
    have s6 := eb6 S _ (Nat.ne_of_gt hIS) s5
    show wpAny _ A.in1 (updateSeq S (fun _ => #[]) >>= _) _ _ _
    refine wpAny_bind ?_
    refine wpAny_updateSeq s6 rfl (wpAny_bind (wpAny_letGo (wpAny_pure ?_)))
    rw [hv]
    exact ret _ _ fun b o e => (Heap.get?_update_other _ _ (Ne.symm (hSn b o e))).trans (k6 b o e)
  cases c with
  | true =>
    simp only [if_true]
    refine wpAny_bind ?_
    refine wpAny_updateSeq s4 rfl (wpAny_bind (wpAny_letGo ?_))
    rw [hname]
    have o5 : ∀ b o, b ≠ S → h4.get? b = some o → (h4.update S (Obj.mapSeq (fun _ => #[vy, vy]))).get? b = some o := fun b o hb e => (Heap.get?_update_other _ _ (Ne.symm hb)).trans e
    refine wpAny_pure ⟨plainId_quiet F.plain_min_loop _, last _ vy _ _ (fun b o e => o5 b o (hSn b o e) (k4 b o e)) ?_ (Heap.get?_update_self _ s4 rfl) rfl⟩
    refine hideL ?_; intro gg1
    obtain ⟨oi, hoi, hc, hd⟩ := i4
    k_unfold
    exact ⟨oi, o5 _ _ (Nat.ne_of_lt hIS) hoi, hc, hd⟩
  | false =>
    simp only [Bool.false_eq_true, if_false]
    refine wpAny_bind (wpAny_letGo ?_)
    rw [hname]
    exact wpAny_pure ⟨plainId_quiet F.plain_min_loop _, last _ vx _ _ k4 i4 s4 rfl⟩

theorem max2 {prog : Program} {w : World} {A : Around} {E : Value → Shared → Prop} {s : Shared} {Q : Value → Shared → Prop} {m : Addr} {vx vy : Value} {n : Nat} {c : Bool} (hh : A.handled = none) (hm : s.heap.get? m = some { cls := .type "list", data := .seq #[vx, vy] n })
    (hcmp : ∀ (s' : Shared) (Q' : Value → Shared → Prop) (E' : Value → Shared → Prop), (∀ b o, s.heap.get? b = some o → s'.heap.get? b = some o) → Q' (.bool c) s' → wpAny (model prog w) A.in1 (richCompare .Gt vy vx) Q' E' s')
    (ret : ∀ h' tk, (∀ b o, s.heap.get? b = some o → h'.get? b = some o) → Q (if c then vy else vx) { s with heap := h', toks := tk }) :
    wpAny (model prog w) A (call (.builtin "max") [.ref m]) Q E s := by
  have hname : (toString "max" ++ toString ".loop" : String) = "max.loop" := by decide
  refine call_function_tree F.kind_max F.plain_max F.entry_max (F.args_max1 _) ?_
  show wpAny _ A.in1 (Builtin.Builtins.bindParams "max" ["key", "default"] 0 ⟨[], []⟩ >>= _) _ _ s
  refine wpAny_bind (wpAny_of_eq (show Builtin.Builtins.bindParams "max" ["key", "default"] 0 ⟨[], []⟩ = pure [none, none] from rfl) ?_)
  refine wpAny_bind (wpAny_pure ?_)
  have hl0 : s.heap.IsList m #[vx, vy] := ⟨_, hm, rfl, _, rfl⟩
  refine wpAny_bind (wpAny_pyIter_list hl0 ?_)
  refine wpAny_bind (wpAny_newObj_type ?_)
  rw [hname]
  generalize hI : s.heap.objs.size = I
  have hnew : ∀ b o, s.heap.get? b = some o → b < I := fun b o e => hI ▸ Heap.lt_size e
  generalize hh0 : (s.heap.push { cls := .type "list_iterator", data := .fields #[.ref m, .int 0 0] }) = h0
  have k0 : ∀ b o, s.heap.get? b = some o → h0.get? b = some o := fun b o e => by rw [← hh0]; exact Heap.get?_push_of_some _ e
  have i0 : h0.get? I = some { cls := .type "list_iterator", data := .fields #[.ref m, .int 0 0] } := by rw [← hh0, ← hI]; exact Heap.get?_push_size _ rfl
  show _
  generalize hS : h0.objs.size = S
  have hIS : I < S := hS ▸ Heap.lt_size i0
  generalize hh1 : h0.push { cls := .type "list", data := .seq ([] : List Value).toArray } = h1
  have k1 : ∀ b o, s.heap.get? b = some o → h1.get? b = some o := fun b o e => by rw [← hh1]; exact Heap.get?_push_of_some _ (k0 b o e)
  have i1 : h1.IsListIter I m 0 := ⟨_, by rw [← hh1]; exact Heap.get?_push_of_some _ i0, rfl, rfl⟩
  have s1 : h1.get? S = some { cls := .type "list", data := .seq ([] : List Value).toArray } := by rw [← hh1, ← hS]; exact Heap.get?_push_size _ rfl
  -- first turn
  refine wpAny_pure ⟨plainId_quiet F.plain_max_loop _, codeAny_builtin F.entry_max_loop ?_⟩
  rw [Around.under_plainId F.plain_max_loop _]
  show wpAny _ A.in1 (seqItems? (.ref S) >>= _) _ _ _
  refine wpAny_bind (wpAny_seqItems s1 rfl ?_)
  show wpAny _ A.in1 (tryCatch (pyNext (.ref I)) _ >>= _) _ _ _
  have hl1 : h1.IsList m #[vx, vy] := ⟨_, k1 _ _ hm, rfl, _, rfl⟩
  refine wpAny_bind (wpAny_tryCatch (wpAny_pyNext_list_item i1 hl1 (i := 0) (x := vx) rfl fun h2 i2 sb2 => ?_))
  have k2 : ∀ b o, s.heap.get? b = some o → h2.get? b = some o := fun b o e => (sb2.2 b (Nat.ne_of_lt (hnew b o e))).trans (k1 b o e)
  have s2 := (sb2.2 S (Nat.ne_of_gt hIS)).trans s1
  show wpAny _ A.in1 (updateSeq S (fun _ => #[vx, vx]) >>= _) _ _ _
  refine wpAny_bind ?_
  refine wpAny_updateSeq s2 rfl ?_
  rw [hname]
  have s3 := Heap.get?_update_self (Obj.mapSeq (fun _ => #[vx, vx])) s2 rfl
  have o3 : ∀ b o, b ≠ S → h2.get? b = some o → (h2.update S (Obj.mapSeq (fun _ => #[vx, vx]))).get? b = some o := fun b o hb e => (Heap.get?_update_other _ _ (Ne.symm hb)).trans e
  have hSn : ∀ b o, s.heap.get? b = some o → b ≠ S := fun b o e => Nat.ne_of_lt (Nat.lt_trans (hnew b o e) hIS)
  generalize h2.update S (Obj.mapSeq (fun _ => #[vx, vx])) = h3 at s3 o3
  have k3 : ∀ b o, s.heap.get? b = some o → h3.get? b = some o := fun b o e => o3 b o (hSn b o e) (k2 b o e)
  have i3 : h3.IsListIter I m 1 := by obtain ⟨oi, hoi, hc, hd⟩ := i2; exact ⟨oi, o3 _ _ (Nat.ne_of_lt hIS) hoi, hc, hd⟩
  -- second turn
  refine wpAny_pure ⟨plainId_quiet F.plain_max_loop _, codeAny_builtin F.entry_max_loop ?_⟩
  rw [Around.under_plainId F.plain_max_loop _]
  show wpAny _ A.in1 (seqItems? (.ref S) >>= _) _ _ _
  refine wpAny_bind (wpAny_seqItems s3 rfl ?_)
  show wpAny _ A.in1 (tryCatch (pyNext (.ref I)) _ >>= _) _ _ _
  have hl3 : h3.IsList m #[vx, vy] := ⟨_, k3 _ _ hm, rfl, _, rfl⟩
  refine wpAny_bind (wpAny_tryCatch (wpAny_pyNext_list_item i3 hl3 (i := 1) (x := vy) rfl fun h4 i4 sb4 => ?_))
  have k4 : ∀ b o, s.heap.get? b = some o → h4.get? b = some o := fun b o e => (sb4.2 b (Nat.ne_of_lt (hnew b o e))).trans (k3 b o e)
  have s4 := (sb4.2 S (Nat.ne_of_gt hIS)).trans s3
  show wpAny _ A.in1 (tryCatch (holding [vy, vy] (richCompare .Gt vy vx >>= _)) _ >>= _) _ _ _
  refine wpAny_bind (wpAny_tryCatch (wpAny_holding (wpAny_bind (hcmp _ _ _ k4 ?_))))
  refine wpAny_bind (wpAny_holding (wpAny_truthy_bool ?_))
  refine wpAny_bind (wpAny_letGo (wpAny_pure ?_))
  -- third turn, from any heap
  have last : ∀ (h5 : Heap) (v : Value) (tk : Nat) (cc : Nat), (∀ b o, s.heap.get? b = some o → h5.get? b = some o) → h5.IsListIter I m 2 → h5.get? S = some { cls := .type "list", data := .seq #[v, v] cc } → v = (if c then vy else vx) →
      codeAny (model prog w) A (.builtin "max.loop" ⟨[.ref I, .none, .ref S], []⟩) (fun r s' => match r with | .ok (.ret v) => Q v s' | .ok _ => False | .error e => E e s') { s with heap := h5, toks := tk } := by
    intro h5 v tk cc k5 i5 s5 hv
    refine codeAny_builtin F.entry_max_loop ?_
    rw [Around.under_plainId F.plain_max_loop _]
    show wpAny _ A.in1 (seqItems? (.ref S) >>= _) _ _ _
    refine wpAny_bind (wpAny_seqItems s5 rfl ?_)
    show wpAny _ A.in1 (tryCatch (pyNext (.ref I)) _ >>= _) _ _ _
    have hl5 : h5.IsList m #[vx, vy] := ⟨_, k5 _ _ hm, rfl, _, rfl⟩
    refine wpAny_bind (wpAny_tryCatch (wpAny_pyNext_list_end hh i5 hl5 (i := 2) rfl fun h6 eb6 => ?_))
    have k6 : ∀ b o, s.heap.get? b = some o → h6.get? b = some o := fun b o e => eb6 b o (Nat.ne_of_lt (hnew b o e)) (k5 b o e)
    have s6 := eb6 S _ (Nat.ne_of_gt hIS) s5
    show wpAny _ A.in1 (updateSeq S (fun _ => #[]) >>= _) _ _ _
    refine wpAny_bind ?_
    refine wpAny_updateSeq s6 rfl (wpAny_bind (wpAny_letGo (wpAny_pure ?_)))
    rw [hv]
    exact ret _ _ fun b o e => (Heap.get?_update_other _ _ (Ne.symm (hSn b o e))).trans (k6 b o e)
  cases c with
  | true =>
    simp only [if_true]
    refine wpAny_bind ?_
    refine wpAny_updateSeq s4 rfl (wpAny_bind (wpAny_letGo ?_))
    rw [hname]
    have o5 : ∀ b o, b ≠ S → h4.get? b = some o → (h4.update S (Obj.mapSeq (fun _ => #[vy, vy]))).get? b = some o := fun b o hb e => (Heap.get?_update_other _ _ (Ne.symm hb)).trans e
    refine wpAny_pure ⟨plainId_quiet F.plain_max_loop _, last _ vy _ _ (fun b o e => o5 b o (hSn b o e) (k4 b o e)) ?_ (Heap.get?_update_self _ s4 rfl) rfl⟩
    refine hideL ?_; intro gg2
    obtain ⟨oi, hoi, hc, hd⟩ := i4
    k_unfold
    exact ⟨oi, o5 _ _ (Nat.ne_of_lt hIS) hoi, hc, hd⟩
  | false =>
    simp only [Bool.false_eq_true, if_false]
    refine wpAny_bind (wpAny_letGo ?_)
    rw [hname]
    exact wpAny_pure ⟨plainId_quiet F.plain_max_loop _, last _ vx _ _ k4 i4 s4 rfl⟩
end TB7
section TB8
open PySem PySem.W PyProof.Rows PySem.Calls
set_option maxHeartbeats 4000000
theorem for_enum {prog : Program} {w : World} {A : Around} {s : Shared} {env : Env} {xi xv : Str} {pi pv pt pos : Pos} {x1} {iter : Expr} {body : List Stmt} {l : Addr} {items : Array Value} {n : Nat} {Q : Flow → Shared → Prop} {h₀ : Heap} {m : Str → Option Value}
    (J : Nat → (Str → Option Value) → Prop)
    (hh : A.handled = none) (hxi : env.kindOf xi = some .local) (hxv : env.kindOf xv = some .local) (hp : (env.scope.kind == .class || (env.scope.kind == .module && env.locals != env.globals)) = false)
    (F : Fr h₀ env.locals s.heap m) (hl0 : h₀.get? l = some { cls := .type "list", data := .seq items n }) (h0 : J 0 m)
    (hiter : wpAny (model prog w) A (eval iter env) (fun v s₁ => ∃ e it tk h', v = .ref e ∧ s₁ = { s with heap := h', toks := tk } ∧ IsEnum h' e it 0 .none ∧ h'.IsListIter it l 0 ∧ e ≠ it ∧ s.heap.get? e = none ∧ s.heap.get? it = none ∧ (∀ b o, s.heap.get? b = some o → h'.get? b = some o)) noE s)
    (step : ∀ i v tk m₁ h tk' e it oe oi, items[i]? = some v → J i m₁ → Fr h₀ env.locals h (fun y => if y = xv then some v else if y = xi then some (.int i tk) else m₁ y) → News h₀ env.locals h [(e, oe), (it, oi)] →
      wpAny (model prog w) A (execs body env) (fun f s₂ => (f = .next ∧ ∃ h' tk' m₂, s₂ = { s with heap := h', toks := tk' } ∧ Fr h₀ env.locals h' m₂ ∧ News h₀ env.locals h' [(e, oe), (it, oi)] ∧ J (i + 1) m₂) ∨ ∃ v, f = .ret v ∧ Q (.ret v) s₂) noE { s with heap := h, toks := tk' })
    (fin : ∀ h tk m', Fr h₀ env.locals h m' → J items.size m' → Q .next { s with heap := h, toks := tk })
    (hs : ∀ x, foldedSetIterable iter env x = pure x) :
    wpAny (model prog w) A (exec (.For (.Tuple [.Name xi pi, .Name xv pv] x1 pt) iter body [] pos) env) Q noE s := by
  refine wpAny_For (wpAny_mono hiter (fun xval s₁ h₁ => ?_) fun _ _ x => x) hs
  refine hideL ?_; intro gg1
  obtain ⟨e, it, tk₁, hx, rfl, rfl, he, hit, hei, hne, hni, hk⟩ := h₁
  k_unfold
  refine wpAny_pyIter_enum he ?_
  have nz : ∀ b, s.heap.get? b = none → h₀.get? b = none := fun b hb => by
    cases z : h₀.get? b with
    | none => rfl
    | some o => rw [F.keep _ _ z] at hb; cases hb
  have nL : ∀ b, s.heap.get? b = none → b ≠ env.locals := fun b hb z => by
    obtain ⟨oL, _, _, hL, _⟩ := F.ns; rw [z, hL] at hb; cases hb
  have heL := nL e hne
  have hiL := nL it hni
  have he0 := nz e hne
  have hi0 := nz it hni
  have hle : l ≠ e := fun z => by rw [z, he0] at hl0; cases hl0
  have hli : l ≠ it := fun z => by rw [z, hi0] at hl0; cases hl0
  refine codeAny_forLoop_any (R := fun r s' => match r with | .ok f => Q f s' | .error e => cameBackBy (model prog w) A env noE e s')
    (fun k s' => ∃ h' tk m' i old, s' = { s with heap := h', toks := tk } ∧ IsEnum h' e it ((i : Nat) : Int) old ∧ h'.IsListIter it l i ∧ Fr h₀ env.locals h' m' ∧ J i m' ∧ i ≤ items.size ∧ k = items.size + 1 - i) ?_ (items.size + 1)
    ⟨hx, tk₁, m, 0, .none, rfl, he, hit, ⟨F.ns.at fun o x => hk _ o x, fun b o z => hk _ _ (F.keep b o z), F.above⟩, h0, Nat.zero_le _, rfl⟩
  rintro k s' hp2_2
  refine hideL ?_; intro gg2
  obtain ⟨H, tk, m', i, old, rfl, he', hit', F', hJ, hi, rfl⟩ := hp2_2
  k_unfold
  have hl' : H.IsList l items := ⟨_, F'.keep _ _ hl0, rfl, _, rfl⟩
  cases hv : items[i]? with
  | none =>
    have hsz : i = items.size := Nat.le_antisymm hi (by simpa using hv)
    refine wpAny_pyNext_enum_end hh he' hit' hl' hv fun h₁ he₁ => wpAny_execs_nil ?_
    exact fin h₁ tk m' ⟨F'.ns.extBut he₁ (Ne.symm hiL), fun b o z => he₁ b o (fun q => by rw [q, hi0] at z; cases z) (F'.keep b o z), F'.above⟩ (hsz ▸ hJ)
  | some v =>
    have hlt : i < items.size := (Array.getElem?_eq_some_iff.mp hv).1
    have heH : e < H.objs.size := Heap.lt_size he'
    have hLH : env.locals < H.objs.size := F'.ns.lt
    refine hideL ?_; intro gg3
    obtain ⟨oi, hoi, hoic, hoid⟩ := id hit'
    k_unfold
    have hiH : it < H.objs.size := Heap.lt_size hoi
    refine wpAny_pyNext_enum_item he' hit' hl' hv hei fun h₁ heo hit₁ ht₁ hz₁ hk₁ => ?_
    refine wpAny_letOwnedTupleGo_enum heo fun h₂ he₂ hs₂ => ?_
    replace hs₂ : Heap.SameBut e h₁ h₂ := hs₂
    have ht₂ : h₂.IsTuple H.objs.size #[.int i tk, v] := ⟨_, (hs₂.2 _ (Nat.ne_of_gt heH)).trans ht₁, rfl, _, rfl⟩
    have hz₂ : h₂.objs.size = H.objs.size + 1 := hs₂.1.trans hz₁
    refine wpAny_assign_Tuple hh ht₂ rfl rfl fun h₃ hx₃ => ?_
    replace hx₃ : Heap.ExtBut h₂.objs.size h₂ h₃ := hx₃
    have old₃ : ∀ b o, b < H.objs.size → h₂.get? b = some o → h₃.get? b = some o := fun b o hb x => hx₃ b o (by rw [hz₂]; exact Nat.ne_of_lt (Nat.lt_succ_of_lt hb)) x
    have hn₃ : h₃.Ns env.locals m' := (F'.ns.at fun o x => hk₁ _ o (Ne.symm heL) (Ne.symm hiL) x).sameBut hs₂ (Ne.symm heL) |>.at fun o x => old₃ _ o hLH x
    have F₃ : Fr h₀ env.locals h₃ m' := ⟨hn₃, fun b o z => old₃ b o (Nat.lt_of_lt_of_le (Heap.lt_size (F'.keep b o z)) (Nat.le_refl _)) ((hs₂.2 b (fun q => by rw [q, he0] at z; cases z)).trans (hk₁ b o (fun q => by rw [q, he0] at z; cases z) (fun q => by rw [q, hi0] at z; cases z) (F'.keep b o z))), F'.above⟩
    have e₃ : IsEnum h₃ e it ((i : Int) + 1) v := old₃ _ _ heH he₂
    have i₃ : h₃.IsListIter it l (i + 1) := by
      refine hideL ?_; intro gg4
      obtain ⟨o, ho, hc, hd⟩ := hit₁
      k_unfold
      exact ⟨o, old₃ _ _ hiH ((hs₂.2 _ (Ne.symm hei)).trans ho), hc, hd⟩
    show wpAny _ A (do holding [v] (assign (.Name xi pi) env (.int i tk)); do holding [] (assign (.Name xv pv) env v); pure ()) _ _ _
    refine wpAny_bind (wpAny_holding (wpAny_assign_Name (wpAny_storeName_local hxi hn₃ (fun h₄ hn₄ hs₄ => ?_) hp)))
    replace hs₄ : Heap.SameBut env.locals h₃ h₄ := hs₄
    refine wpAny_bind (wpAny_holding (wpAny_assign_Name (wpAny_storeName_local hxv hn₄ (fun h₅ hn₅ hs₅ => wpAny_pure ?_) hp)))
    replace hs₅ : Heap.SameBut env.locals h₄ h₅ := hs₅
    refine hideL ?_; intro gg5
    obtain ⟨oi₃, hoi₃, hc₃, hd₃⟩ := i₃
    k_unfold
    have N₃ : News h₀ env.locals h₃ [(e, _), (it, oi₃)] := List.forall_mem_cons.mpr ⟨⟨e₃, heL, he0⟩, List.forall_mem_cons.mpr ⟨⟨hoi₃, hiL, hi0⟩, List.forall_mem_nil _⟩⟩
    refine wpAny_mono (step i v tk m' h₅ _ e it _ oi₃ hv hJ ((F₃.set hn₄ hs₄).set hn₅ hs₅) ((N₃.set hs₄).set hs₅)) (fun f s₃ h₆ => ?_) fun _ _ x => x.elim
    rcases h₆ with ⟨rfl, h₆, tk₆, m₂, rfl, F₆, N₆, hJ₆⟩ | ⟨v', rfl, hQ⟩
    · exact ⟨items.size + 1 - (i + 1), by (first | exact (lin2 4 [_, _, _, _] 0 (.a (.v 0) (.k 1)) (.v 1) 1 (.a (.v 0) (.a (.v 2) (.k 1))) (.a (.v 3) (.k 1)) 1 (.a (.v 3) (.k 1)) (.a (.v 1) (.v 2)) (Nat.le_of_eq (Nat.sub_add_cancel (lin1 2 [_, _] 0 (.a (.v 0) (.k 1)) (.a (.v 1) (.k 1)) 1 (.a (.v 0) (.k 1)) (.v 1) hlt rfl (Eq.refl true)))) (Nat.le_add_of_sub_le (Nat.le_refl _)) rfl (Eq.refl true)) | omega), h₆, tk₆, m₂, i + 1, v, rfl, (N₆ _ (.head _)).1, ⟨oi₃, (N₆ _ (.tail _ (.head _))).1, hc₃, hd₃⟩, F₆, hJ₆, hlt, rfl⟩
    · exact hQ
end TB8
section TE3
open PySem PySem.W PyProof.Rows PySem.Calls
set_option maxHeartbeats 8000000

theorem slice_upto (l : List (Str × Tok)) (i : Nat) (hi : i ≤ l.length) : slicePick (strValues l).toArray none (some (i : Int)) none = (strValues (l.take i)).toArray := by
  rw [slicePick_upto _ i (by rw [sv_size]; exact hi)]
  simp [strValues]

theorem pick {h : Heap} {a b : Addr} {la lb : List (Str × Tok)} {na nb : Nat} (ha : h.get? a = some (lst la na)) (hb : h.get? b = some (lst lb nb)) :
    ∃ u v lu lv nu nv, (if ltB (lb.map (·.1)) (la.map (·.1)) = true then Value.ref b else .ref a) = .ref u ∧ (if gtB (lb.map (·.1)) (la.map (·.1)) = true then Value.ref b else .ref a) = .ref v ∧ h.get? u = some (lst lu nu) ∧ h.get? v = some (lst lv nv) ∧
      (∀ i, (lu.map (·.1)).take i = (lv.map (·.1)).take i → i < (lu.map (·.1)).length → i < (lv.map (·.1)).length) ∧ cpre (lu.map (·.1)) (lv.map (·.1)) = cpre (la.map (·.1)) (lb.map (·.1)) ∧ lu.length ≤ max la.length lb.length ∧ lv.length ≤ max la.length lb.length := by
  cases h1 : ltB (lb.map (·.1)) (la.map (·.1)) with
  | true =>
    rw [lt_gt _ _ h1]
    exact ⟨b, a, lb, la, nb, na, rfl, rfl, hb, ha, lt_ok _ _ h1, cpre_comm _ _, Nat.le_max_right _ _, Nat.le_max_left _ _⟩
  | false =>
    cases h2 : gtB (lb.map (·.1)) (la.map (·.1)) with
    | true => exact ⟨a, b, la, lb, na, nb, rfl, rfl, ha, hb, gt_ok _ _ h2, rfl, Nat.le_max_left _ _, Nat.le_max_right _ _⟩
    | false =>
      have e := neither _ _ h1 h2
      exact ⟨a, a, la, la, na, na, rfl, rfl, ha, ha, fun i _ h => h, by rw [e], Nat.le_max_left _ _, Nat.le_max_left _ _⟩

theorem isinst_list {prog : Program} {w : World} {A : Around} {E : Value → Shared → Prop} {s : Shared} {Q : Value → Shared → Prop} {a D : Addr} (ha : s.TypeIs (.ref a) "list") (hD : s.heap.get? D = some { cls := .type "tuple", data := .seq #[.type "list", .type "tuple"] }) (h : ∀ tk, Q (.bool true) { s with toks := tk }) :
    wpAny (model prog w) A (call (.builtin "isinstance") [.ref a, .ref D]) Q E s :=
  call_isinstance (isinstance_tuple (Tx := "list") (vs := [true, false]) (cs := [.type "list", .type "tuple"]) ⟨.of_true (by kernel_rfl) (by rw [isSubtype_type]; kernel_rfl), .of_false_list (by decide +kernel) (by kernel_rfl) (by rw [isSubtype_type]; kernel_rfl), trivial⟩) ⟨ha, hD, h⟩

noncomputable abbrev cpM (u v m : Addr) : Str → Option Value := fun y => if y = Str.ofString "s2" then some (.ref v) else if y = Str.ofString "s1" then some (.ref u) else List.lookup y [(Str.ofString "m", Value.ref m)].reverse
theorem ct_cprefix {w : World} {A : Around} {Q : Value → Shared → Prop} {s : Shared} {p : Program} {loose : List Str} {mean : ExcName → Option Value} {mg mb : Str → Option Value}
    (X : (Mine.top.heap_1_39 w.params).In s.heap) (T : Top p loose mean mg mb s.heap) (hroom : A.depth + 20 < recursionLimit) (hh : A.handled = none) (hun : A.units + 50 < cLine) {m a b : Addr} {la lb : List (Str × Tok)} {n na nb : Nat}
    (hm : s.heap.get? m = some { cls := .type "list", data := .seq #[.ref a, .ref b] n }) (ha : s.heap.get? a = some (lst la na)) (hb : s.heap.get? b = some (lst lb nb)) (hla : la.length < 100) (hlb : lb.length < 100)
    (ret : ∀ h' tk D (l : List (Str × Tok)) nn, Stays s.heap h' → h'.get? D = some (lst l nn) → l.map (·.1) = cpre (la.map (·.1)) (lb.map (·.1)) → Q (.ref D) { s with heap := h', toks := tk }) :
    wpAny (model PySem.Challenge.rw_aa0007_01.row.prog w) A (call (.ref 124) [.ref m]) Q noE s := by
  refine aro hh hroom hun ?_
  clear hh hroom hun
  intro ad af ag au hroom hun
  revert X; k_fill; intro X
  k_dflt (refine' enterK (binds := [(Str.ofString "m", Value.ref m)]) ?k1 ?k2 ?k6 ?k7 ?k8 ?k9 ?kB ?_ ?c5 ?c2 ?c3 ?c4; ((case k1 => assumption); (case k2 => exact Top.nolimit (by assumption)); (case k6 => k_is); (case k7 => k_is); (case k8 => (try dsimp only); (first | exact (ch1 21 0 1 0 hroom (Eq.refl true)) | omega)); (case k9 => exact BindsTo.of_eq rfl); (case c5 => decide); (case kB => exact locs rfl); (case c2 => exact rfl); (case c3 => exact rfl); (case c4 => exact rfl)))
  intro h₁ F
  (try k_extra "en")
  have N : News s.heap s.heap.objs.size h₁ [] := News.nil
  have hml : s.heap.IsList m #[.ref a, .ref b] := ⟨_, hm, rfl, _, rfl⟩
  have hal : s.heap.IsList a (strValues la).toArray := ⟨_, ha, rfl, _, rfl⟩
  have hbl : s.heap.IsList b (strValues lb).toArray := ⟨_, hb, rfl, _, rfl⟩
  ((try k_extra "rf"); (repeat' (first | (k_extra "v0") | (k_extra "wn") | ((k_extra "ge"); (k_extra "ve")) | ((k_extra "gx"); (k_extra "lF"); (k_extra "vx")) | (k_extra "rq") | ((k_extra "lF"); (k_extra "wo")))))
  rename News _ _ _ _ => N
  rename Fr _ _ _ _ => F
  refine isinst_list ⟨_, F.keep _ _ ha, rfl⟩ (N _ (.head _)).1 ?_
  intro tk1
  ((try k_extra "rf"); (repeat' (first | (k_extra "wb") | ((k_extra "lB"); (k_extra "wo")))))
  rename News _ _ _ _ => N
  rename Fr _ _ _ _ => F
  refine min2 (A := _) rfl (F.keep _ _ hm) (c := ltB (lb.map (·.1)) (la.map (·.1))) (fun s' Q' E' hk h => rc_lt (hk _ _ (F.keep _ _ hb)) (hk _ _ (F.keep _ _ ha)) (by show au + 3 + 1 < cLine; first | exact room hun rfl | exact room2 hun rfl | exact room3 hun rfl | omega) h) ?_
  intro h2 tk2 k2
  have F2 := fr_stay F k2
  have N2 := news_stay N k2
  clear F N
  (try dsimp only)
  ((try k_extra "rf"); (repeat' (first | (k_extra "wb") | ((k_extra "lB"); (k_extra "wo")))))
  rename News _ _ _ _ => N
  rename Fr _ _ _ _ => F
  refine max2 (A := _) rfl (F.keep _ _ hm) (c := gtB (lb.map (·.1)) (la.map (·.1))) (fun s' Q' E' hk h => rc_gt (hk _ _ (F.keep _ _ hb)) (hk _ _ (F.keep _ _ ha)) (by show au + 3 + 1 < cLine; first | exact room hun rfl | exact room2 hun rfl | exact room3 hun rfl | omega) h) ?_
  intro h3 tk3 k3
  have F3 := fr_stay F k3
  have N3 := news_stay N k3
  clear F N
  refine hideL ?_; intro gg1
  obtain ⟨u, v, lu, lv, nu, nv, eu, ev, hu, hv, hok, hcp, zu, zv⟩ := pick ha hb
  k_unfold
  rw [eu] at F3
  rw [ev]
  have hul : s.heap.IsList u (strValues lu).toArray := ⟨_, hu, rfl, _, rfl⟩
  have hvl : s.heap.IsList v (strValues lv).toArray := ⟨_, hv, rfl, _, rfl⟩
  have zul : lu.length ≤ 100 := Nat.le_trans zu (Nat.max_le.mpr ⟨Nat.le_of_lt hla, Nat.le_of_lt hlb⟩)
  have zus : (strValues lu).toArray.size ≤ 100 := by rw [sv_size]; exact zul
  have zvs : (strValues lv).toArray.size ≤ 100 := by rw [sv_size]; exact Nat.le_trans zv (Nat.max_le.mpr ⟨Nat.le_of_lt hla, Nat.le_of_lt hlb⟩)
  clear eu ev
  (try dsimp only)
  ((try k_extra "rf"); (repeat' (first | (k_extra "v0") | (k_extra "wn") | ((k_extra "ge"); (k_extra "ve")) | ((k_extra "gx"); (k_extra "lF"); (k_extra "vx")) | (k_extra "rq") | ((k_extra "lF"); (k_extra "wo")))))
  rename News _ _ _ _ => N
  rename Fr _ _ _ _ => F
  have F0 : Fr s.heap s.heap.objs.size _ (cpM u v m) := F
  clear F
  refine for_enum (hs := by intro _; rfl) (J := fun i m' => ∃ ci cc, m' = (fun y => if y = Str.ofString "c" then cc else if y = Str.ofString "i" then ci else cpM u v m y) ∧ (lu.map (·.1)).take i = (lv.map (·.1)).take i ∧ i ≤ lu.length) (l := u) (items := (strValues lu).toArray) rfl rfl rfl rfl F0 hu ⟨none, none, funext fun y => ?_, rfl, Nat.zero_le _⟩ ?_ ?_ ?_
  · by_cases e1 : y = Str.ofString "c"
    · subst e1; rfl
    · rw [if_neg e1]
      by_cases e2 : y = Str.ofString "i"
      · subst e2; rfl
      · rw [if_neg e2]
  · rename Fr _ _ _ _ => F
    ((try k_extra "rf"); (repeat' (first | (k_extra "wb") | ((k_extra "lTy"); (k_extra "wo")))))
    refine call_enumerate_1 (F.keep _ _ hu) ?_
    intro h' he hi hz hk
    exact ⟨_, _, _, h', rfl, rfl, he, hi, Nat.succ_ne_self _, Heap.get?_none_of_le (Nat.le_succ _), Heap.get?_none_of_le (Nat.le_refl _), hk⟩
  · rintro i vv tk m1 h tk' e it oe oi hv1 hp2_11 F N
    refine hideL ?_; intro gg2
    obtain ⟨ci, cc, rfl, htk, hile⟩ := hp2_11
    k_unfold
    replace F : Fr s.heap s.heap.objs.size h _ := F
    replace N : News s.heap s.heap.objs.size h _ := N
    obtain ⟨c, uc, hci, rfl⟩ : ∃ c uc, lu[i]? = some (c, uc) ∧ vv = .str c uc := by
      have e := sv_get lu i
      rw [Int.toNat_natCast, hv1] at e
      cases hg : lu[i]? with
      | none => rw [hg] at e; cases e
      | some cu => rw [hg] at e; exact ⟨cu.1, cu.2, rfl, Option.some.inj e⟩
    have hil : i < lu.length := (List.getElem?_eq_some_iff.mp hci).1
    have hiv : i < lv.length := by simpa using hok i htk (by simpa using hil)
    refine hideL ?_; intro gg3
    obtain ⟨d, ud, hdi⟩ : ∃ d ud, lv[i]? = some (d, ud) := ⟨_, _, List.getElem?_eq_getElem hiv⟩
    k_unfold
    dsimp only at F
    have F1 : Fr s.heap s.heap.objs.size h (fun y => if y = Str.ofString "c" then some (.str c uc) else if y = Str.ofString "i" then some (.int i tk) else cpM u v m y) := Fr.look F (fun y => by
      by_cases e1 : y = Str.ofString "c"
      · simp only [if_pos e1]
      · simp only [if_neg e1]
        by_cases e2 : y = Str.ofString "i"
        · simp only [if_pos e2]
        · simp only [if_neg e2])
    clear F
    ((try k_extra "rf"); (repeat' (first | (k_extra "wb") | ((k_extra "lS"); (k_extra "wo")))))
    refine item_list (hs := by with_unfolding_all rfl) (⟨_, F1.keep _ _ hv, rfl, _, rfl⟩ : h.IsList v (strValues lv).toArray) (Int.natCast_nonneg i) (Int.lt_trans (Int.ofNat_lt.mpr (Nat.lt_of_lt_of_le hil zul)) (by decide)) (v := .str d ud) (by rw [sv_get, hdi]; rfl) ?_
    by_cases hcd : c = d
    · have q1 : ¬ ((c != d) = true) := by simp [hcd]
      ((try k_extra "rf"); (repeat' (first | (k_extra "w1") | (k_end; (k_extra "lOr"); (k_extra "vn")) | (k_extra "rq") | (k_extra "wo"))))
      (try dsimp only)
      refine .inl ⟨rfl, _, _, _, rfl, F1, N, _, _, rfl, ?_, by (first | exact (ch1 1 0 1 0 hil (Eq.refl true)) | omega)⟩
      have e1 : (lu.map (·.1))[i]? = some c := by rw [List.getElem?_map, hci]; rfl
      have e2 : (lv.map (·.1))[i]? = some d := by rw [List.getElem?_map, hdi]; rfl
      rw [List.take_add_one, List.take_add_one, htk, e1, e2, hcd]
    · have q1 : (c != d) = true := by simp [hcd]
      ((try k_extra "rf"); (repeat' (first | (k_extra "w1") | (k_end; (k_extra "lOr"); (k_extra "vn")) | (k_extra "rq") | (k_extra "wo"))))
      (try dsimp only)
      rename News _ _ _ _ => N2
      rename Fr _ _ _ _ => F2
      refine .inr ⟨_, rfl, ?_⟩
      have hD := (N2 _ (.head _)).1
      dsimp only at hD
      rw [slice_upto lu i hile] at hD
      have e1 : (lu.map (·.1))[i]? = some c := by rw [List.getElem?_map, hci]; rfl
      have e2 : (lv.map (·.1))[i]? = some d := by rw [List.getElem?_map, hdi]; rfl
      have hcut := cpre_at (lu.map (·.1)) (lv.map (·.1)) i htk (fun x y f1 f2 => by rw [e1] at f1; rw [e2] at f2; cases f1; cases f2; exact hcd) (fun _ => by simpa using hiv)
      repeat (with_reducible refine seq_ret (by assumption) ?_)
      exact ret _ _ _ (lu.take i) 0 F2.keep hD (by rw [← hcp, hcut, List.map_take])
  · rintro h tk m' F hp4_4
    refine hideL ?_; intro gg4
    obtain ⟨ci, cc, rfl, htk, hile⟩ := hp4_4
    k_unfold
    replace F : Fr s.heap s.heap.objs.size h _ := F
    have hwhole : cpre (lu.map (·.1)) (lv.map (·.1)) = lu.map (·.1) := by
      rw [sv_size] at htk
      have := cpre_at (lu.map (·.1)) (lv.map (·.1)) lu.length htk (fun x y e => by rw [List.getElem?_eq_none (by simp)] at e; cases e) (fun z => by simp at z)
      rw [this, List.take_of_length_le (by simp)]
    (try dsimp only)
    ((try k_extra "rf"); (repeat' (first | (k_extra "wb") | (k_extra "wo"))))
    (try dsimp only)
    rename Fr _ _ _ _ => F
    exact ret _ _ u lu nu F.keep (F.keep _ _ hu) (hwhole.symm.trans hcp)
end TE3
section TG1
open PySem PySem.W PyProof.Rows PySem.Calls
set_option maxHeartbeats 8000000

theorem cpre_take : ∀ (u v : List Str) (k : Nat), u.take k = v.take k → k ≤ u.length → k ≤ v.length → ¬ (u.take (k + 1) = v.take (k + 1) ∧ k < u.length ∧ k < v.length) → (cpre u v).length = k
  | u, v, 0, _, _, _, h => by
    cases u with
    | nil => simp [cpre]
    | cons x u => cases v with
      | nil => simp [cpre]
      | cons y v =>
        have : x ≠ y := fun e => h ⟨by simp [e], by simp, by simp⟩
        simp [cpre, this]
  | [], _, k + 1, _, h, _, _ => by simp at h
  | _ :: _, [], k + 1, _, _, h, _ => by simp at h
  | x :: u, y :: v, k + 1, h1, h2, h3, h4 => by
    simp only [List.take_succ_cons, List.cons.injEq] at h1
    obtain ⟨rfl, h1⟩ := h1
    have := cpre_take u v k h1 (by simpa using h2) (by simpa using h3) (fun ⟨a, b, c⟩ => h4 ⟨by simp only [List.take_succ_cons]; rw [a], by simp; (first | exact (ch1 1 0 1 0 b (Eq.refl true)) | omega), by simp; (first | exact (ch1 1 0 1 0 c (Eq.refl true)) | omega)⟩)
    simp [cpre, this]

theorem slice_upto2 (l : List (Str × Tok)) (i : Nat) : slicePick (strValues l).toArray none (some (i : Int)) none = (strValues (l.take i)).toArray := by
  rw [slicePick_upto' _ i]
  simp [strValues]

theorem ct_shared {w : World} {A : Around} {Q : Value → Shared → Prop} {s : Shared} {p : Program} {loose : List Str} {mean : ExcName → Option Value} {mg mb : Str → Option Value}
    (X : (Mine.top.heap_1_39 w.params).In s.heap) (T : Top p loose mean mg mb s.heap) (hroom : A.depth + 10 < recursionLimit) (hh : A.handled = none) (hun : A.units + 50 < cLine)
    {a b : Addr} {la lb : List (Str × Tok)} {na nb : Nat} (ha : s.heap.get? a = some (lst la na)) (hb : s.heap.get? b = some (lst lb nb)) (za : la.length ≤ 100) (zb : lb.length ≤ 100)
    (ret : ∀ h' tk t, Stays s.heap h' → Q (.int ((cpre (la.map (·.1)) (lb.map (·.1))).length : Nat) t) { s with heap := h', toks := tk }) :
    wpAny (model PySem.Challenge.rw_aa0007_01.row.prog w) A (call (.ref 979) [.ref a, .ref b]) Q noE s := by
  refine aro hh hroom hun ?_
  clear hh hroom hun
  intro ad af ag au hroom hun
  revert X; k_fill; intro X
  k_dflt (refine' enterK (binds := [(Str.ofString "one", Value.ref a), (Str.ofString "other", Value.ref b)]) ?k1 ?k2 ?k6 ?k7 ?k8 ?k9 ?kB ?_ ?c5 ?c2 ?c3 ?c4; ((case k1 => assumption); (case k2 => exact Top.nolimit (by assumption)); (case k6 => k_is); (case k7 => k_is); (case k8 => (try dsimp only); (first | exact (ch1 11 0 1 0 hroom (Eq.refl true)) | omega)); (case k9 => exact BindsTo.of_eq rfl); (case c5 => decide); (case kB => exact locs rfl); (case c2 => exact rfl); (case c3 => exact rfl); (case c4 => exact rfl)))
  intro h₁ F
  (try k_extra "en")
  have N : News s.heap s.heap.objs.size h₁ [] := News.nil
  have hal : s.heap.IsList a (strValues la).toArray := ⟨_, ha, rfl, _, rfl⟩
  have hbl : s.heap.IsList b (strValues lb).toArray := ⟨_, hb, rfl, _, rfl⟩
  have zas : (strValues la).toArray.size ≤ 100 := by rw [sv_size]; first | assumption | omega
  have zbs : (strValues lb).toArray.size ≤ 100 := by rw [sv_size]; first | assumption | omega
  ((try k_extra "rf"); (repeat' (first | (k_extra "v0") | (k_extra "wn") | ((k_extra "ge"); (k_extra "ve")) | ((k_extra "gx"); (k_extra "lW"); (k_extra "vx")) | (k_extra "rq") | ((k_extra "lW"); (k_extra "wo")))))
  rename News _ _ _ _ => N
  rename Fr _ _ _ _ => F
  refine while_ (fun n s' => ∃ h tk k tr, s' = { s with heap := h, toks := tk } ∧ Fr s.heap s.heap.objs.size h (fun y => if y = Str.ofString "size" then some (Value.int (k : Nat) tr) else List.lookup y [(Str.ofString "one", Value.ref a), (Str.ofString "other", Value.ref b)].reverse)
    ∧ (la.map (·.1)).take k = (lb.map (·.1)).take k ∧ k ≤ la.length ∧ k ≤ lb.length ∧ n + k = la.length) ?_ la.length ⟨_, _, 0, _, rfl, F, rfl, Nat.zero_le _, Nat.zero_le _, rfl⟩
  rintro n s' hp1_2
  refine hideL ?_; intro gg1
  obtain ⟨h, tk, k, tr, rfl, F, htk, hk1, hk2, hn⟩ := hp1_2
  k_unfold
  have N : News s.heap s.heap.objs.size h [] := News.nil
  ((try k_extra "rf"); (repeat' (first | (k_extra "wb") | ((k_extra "lE"); (k_extra "wo")))))
  rename News _ _ _ _ => N
  rename Fr _ _ _ _ => F
  have hN1 := N.isList (.tail _ (.head _))
  have hN2 := N.isList (.head _)
  rw [show ((k : Int) + 1) = ((k + 1 : Nat) : Int) from rfl, slice_upto2] at hN1 hN2
  refine eq_textsN hN1 hN2 List.map_take List.map_take (by show au + 3 < cLine; first | exact room hun rfl | exact room2 hun rfl | exact room3 hun rfl | omega) ?_
  clear hN1 hN2
  replace N := news_tail (news_tail N)
  by_cases e1 : (la.map (·.1)).take (k + 1) = (lb.map (·.1)).take (k + 1)
  · have q1 := decide_eq_true e1
    by_cases e2 : k < la.length
    · have q2 : decide ((k : Int) < ((strValues la).toArray.size : Int)) = true := by rw [sv_size]; exact decide_eq_true (by first | exact Int.ofNat_lt.mpr (by assumption) | omega)
      by_cases e3 : k < lb.length
      · have q3 : decide ((k : Int) < ((strValues lb).toArray.size : Int)) = true := by rw [sv_size]; exact decide_eq_true (by first | exact Int.ofNat_lt.mpr (by assumption) | omega)
        ((try k_extra "rf"); (repeat' (first | (k_extra "w1") | (k_end; (k_extra "lEx"); (k_extra "vn")) | (k_extra "rq") | (k_extra "wo"))))
        (try dsimp only)
        rename Fr _ _ _ _ => F1
        dsimp only at F1
        rw [same_name] at F1
        exact ⟨n - 1, by (first | exact (lin1 2 [_, _] 0 (.a (.v 0) (.k 1)) (.v 1) 1 (.a (.v 0) (.k 1)) (.v 1) (Nat.le_of_eq (Nat.sub_add_cancel (lin2 3 [_, _, _] 0 (.k 1) (.v 0) 1 (.v 1) (.a (.v 0) (.v 2)) 1 (.a (.v 2) (.k 1)) (.v 1) (Nat.le_of_eq hn.symm) e2 rfl (Eq.refl true)))) rfl (Eq.refl true)) | omega), _, _, k + 1, _, rfl, F1, e1, e2, e3, by (first | exact (Nat.le_antisymm (lin2 4 [_, _, _, _] 0 (.a (.v 0) (.a (.v 1) (.k 1))) (.v 2) 1 (.a (.v 3) (.v 1)) (.v 2) 1 (.a (.v 0) (.k 1)) (.v 3) (Nat.le_of_eq hn) (Nat.le_of_eq (Nat.sub_add_cancel (lin2 3 [_, _, _] 0 (.k 1) (.v 0) 1 (.v 1) (.a (.v 0) (.v 2)) 1 (.a (.v 2) (.k 1)) (.v 1) (Nat.le_of_eq hn.symm) e2 rfl (Eq.refl true)))) rfl (Eq.refl true)) (lin2 4 [_, _, _, _] 0 (.v 0) (.a (.v 1) (.a (.v 2) (.k 1))) 1 (.v 0) (.a (.v 3) (.v 2)) 1 (.v 3) (.a (.v 1) (.k 1)) (Nat.le_of_eq hn.symm) (Nat.le_add_of_sub_le (Nat.le_refl _)) rfl (Eq.refl true))) | omega)⟩
      · have q3 : ¬ (decide ((k : Int) < ((strValues lb).toArray.size : Int)) = true) := by rw [sv_size, decide_eq_true_iff]; first | exact fun z => absurd (Int.ofNat_lt.mp z) (by assumption) | omega
        have hc := cpre_take (la.map (·.1)) (lb.map (·.1)) k htk (by simpa using hk1) (by simpa using hk2) (fun z => e3 (by simpa using z.2.2))
        rw [hc] at ret
        ((try k_extra "rf"); (repeat' (first | (k_extra "wb") | (k_extra "wo"))))
        (try dsimp only)
        rename Fr _ _ _ _ => F1
        exact ret _ _ _ F1.keep
    · have q2 : ¬ (decide ((k : Int) < ((strValues la).toArray.size : Int)) = true) := by rw [sv_size, decide_eq_true_iff]; first | exact fun z => absurd (Int.ofNat_lt.mp z) (by assumption) | omega
      have hc := cpre_take (la.map (·.1)) (lb.map (·.1)) k htk (by simpa using hk1) (by simpa using hk2) (fun z => e2 (by simpa using z.2.1))
      rw [hc] at ret
      ((try k_extra "rf"); (repeat' (first | (k_extra "wb") | (k_extra "wo"))))
      (try dsimp only)
      rename Fr _ _ _ _ => F1
      exact ret _ _ _ F1.keep
  · have q1' : ¬ (decide ((la.map (·.1)).take (k + 1) = (lb.map (·.1)).take (k + 1)) = true) := by rw [decide_eq_true_iff]; exact e1
    have hc := cpre_take (la.map (·.1)) (lb.map (·.1)) k htk (by simpa using hk1) (by simpa using hk2) (fun z => e1 z.1)
    rw [hc] at ret
    ((try k_extra "rf"); (repeat' (first | (k_extra "wb") | (k_extra "wo"))))
    (try dsimp only)
    rename Fr _ _ _ _ => F1
    exact ret _ _ _ F1.keep
end TG1
section TG3
open PySem PySem.W PyProof.Rows PySem.Calls
set_option maxHeartbeats 8000000

noncomputable def nearF (P D W : List Str) : Str := if D = P then Str.ofString "0" else if P.take D.length = D then (if (cpre P W).length ≤ D.length then Str.ofString "1" else Str.ofString "0") else if W.take D.length = D then Str.ofString "1" else Str.ofString "0"
noncomputable def farF (D W : List Str) : Str := if D ≠ [] ∧ W.take D.length = D then Str.ofString "1" else Str.ofString "0"

theorem ct_near {w : World} {A : Around} {Q : Value → Shared → Prop} {s : Shared} {p : Program} {loose : List Str} {mean : ExcName → Option Value} {mg mb : Str → Option Value}
    (X : (Mine.top.heap_1_39 w.params).In s.heap) (T : Top p loose mean mg mb s.heap) (hroom : A.depth + 20 < recursionLimit) (hh : A.handled = none) (hun : A.units + 60 < cLine)
    {a b c : Addr} {la lb lc : List (Str × Tok)} {na nb nc : Nat} (ha : s.heap.get? a = some (lst la na)) (hb : s.heap.get? b = some (lst lb nb)) (hc : s.heap.get? c = some (lst lc nc)) (za : la.length ≤ 10) (zb : lb.length ≤ 10) (zc : lc.length ≤ 10)
    (ret : ∀ h' tk t, Stays s.heap h' → Q (.str (nearF (la.map (·.1)) (lb.map (·.1)) (lc.map (·.1))) t) { s with heap := h', toks := tk }) :
    wpAny (model PySem.Challenge.rw_aa0007_01.row.prog w) A (call (.ref 993) [.ref a, .ref b, .ref c]) Q noE s := by
  refine aro hh hroom hun ?_
  clear hh hroom hun
  intro ad af ag au hroom hun
  revert X; k_fill; intro X
  k_dflt (refine' enterK (binds := [(Str.ofString "place", Value.ref a), (Str.ofString "folder", Value.ref b), (Str.ofString "way", Value.ref c)]) ?k1 ?k2 ?k6 ?k7 ?k8 ?k9 ?kB ?_ ?c5 ?c2 ?c3 ?c4; ((case k1 => assumption); (case k2 => exact Top.nolimit (by assumption)); (case k6 => k_is); (case k7 => k_is); (case k8 => (try dsimp only); (first | exact (ch1 21 0 1 0 hroom (Eq.refl true)) | omega)); (case k9 => exact BindsTo.of_eq rfl); (case c5 => decide); (case kB => exact locs rfl); (case c2 => exact rfl); (case c3 => exact rfl); (case c4 => exact rfl)))
  intro h₁ F
  (try k_extra "en")
  have N : News s.heap s.heap.objs.size h₁ [] := News.nil
  have hal : s.heap.IsList a (strValues la).toArray := ⟨_, ha, rfl, _, rfl⟩
  have hbl : s.heap.IsList b (strValues lb).toArray := ⟨_, hb, rfl, _, rfl⟩
  have hcl : s.heap.IsList c (strValues lc).toArray := ⟨_, hc, rfl, _, rfl⟩
  have zas : (strValues la).toArray.size ≤ 10 := by rw [sv_size]; (first | exact (ch1 0 10 0 10 za (Eq.refl true)) | omega)
  have zbs : (strValues lb).toArray.size ≤ 10 := by rw [sv_size]; (first | exact (ch1 0 10 0 10 zb (Eq.refl true)) | omega)
  have zcs : (strValues lc).toArray.size ≤ 10 := by rw [sv_size]; (first | exact (ch1 0 10 0 10 zc (Eq.refl true)) | omega)
  ((try k_extra "rf"); (repeat' (first | (k_extra "wb") | ((k_extra "lE"); (k_extra "wo")))))
  rename News _ _ _ _ => N
  rename Fr _ _ _ _ => F
  refine eq_texts ⟨_, F.keep _ _ hb, rfl, _, rfl⟩ ⟨_, F.keep _ _ ha, rfl, _, rfl⟩ (by show au + 3 < cLine; first | exact room hun rfl | exact room2 hun rfl | exact room3 hun rfl | omega) ?_
  unfold nearF at ret
  by_cases e1 : lb.map (·.1) = la.map (·.1)
  · have q1 := decide_eq_true e1
    rw [if_pos e1] at ret
    ((try k_extra "rf"); (repeat' (first | (k_extra "wb") | (k_extra "wo"))))
    (try dsimp only)
    rename Fr _ _ _ _ => F
    exact ret _ _ _ F.keep
  have q1 : ¬ (decide (lb.map (·.1) = la.map (·.1)) = true) := by rw [decide_eq_true_iff]; exact e1
  rw [if_neg e1] at ret
  ((try k_extra "rf"); (repeat' (first | (k_extra "wb") | ((k_extra "lE"); (k_extra "wo")))))
  rename News _ _ _ _ => N
  rename Fr _ _ _ _ => F
  have hN1 := N.isList (.head _)
  rw [slice_upto2, sv_size] at hN1
  refine eq_textsN hN1 ⟨_, F.keep _ _ hb, rfl, _, rfl⟩ List.map_take rfl (by show au + 3 < cLine; first | exact room hun rfl | exact room2 hun rfl | exact room3 hun rfl | omega) ?_
  clear hN1
  replace N := news_tail N
  rw [List.length_map] at ret
  by_cases e2 : (la.map (·.1)).take lb.length = lb.map (·.1)
  · have q2 := decide_eq_true e2
    rw [if_pos e2] at ret
    ((try k_extra "rf"); (repeat' (first | (k_extra "wb") | ((k_extra "lC"); (k_extra "wo")))))
    rename News _ _ _ _ => N
    rename Fr _ _ _ _ => F
    refine ct_shared (X.keeps F.keep) (T.keeps F.keep) (by show ad + 1 + 10 < recursionLimit; first | exact room hroom rfl | exact room2 hroom rfl | exact room3 hroom rfl | omega) rfl (by show au + 3 + 50 < cLine; first | exact room hun rfl | exact room2 hun rfl | exact room3 hun rfl | omega) (F.keep _ _ ha) (F.keep _ _ hc) (by (first | exact (ch1 0 10 0 100 za (Eq.refl true)) | omega)) (by (first | exact (ch1 0 10 0 100 zc (Eq.refl true)) | omega)) ?_
    intro h2 tk2 t2 st2
    have F2 := fr_stay F st2
    have N2 := news_stay N st2
    clear F N st2
    by_cases e3 : (cpre (la.map (·.1)) (lc.map (·.1))).length ≤ lb.length
    · have q3 : decide (((cpre (la.map (·.1)) (lc.map (·.1))).length : Int) ≤ ((strValues lb).toArray.size : Int)) = true := by rw [sv_size]; exact decide_eq_true (by (lia))
      rw [if_pos e3] at ret
      ((try k_extra "rf"); (repeat' (first | (k_extra "wb") | (k_extra "wo"))))
      (try dsimp only)
      rename Fr _ _ _ _ => F
      exact ret _ _ _ F.keep
    · have q3 : ¬ (decide (((cpre (la.map (·.1)) (lc.map (·.1))).length : Int) ≤ ((strValues lb).toArray.size : Int)) = true) := by rw [sv_size, decide_eq_true_iff]; (lia)
      rw [if_neg e3] at ret
      ((try k_extra "rf"); (repeat' (first | (k_extra "wb") | (k_extra "wo"))))
      (try dsimp only)
      rename Fr _ _ _ _ => F
      exact ret _ _ _ F.keep
  have q2 : ¬ (decide ((la.map (·.1)).take lb.length = lb.map (·.1)) = true) := by rw [decide_eq_true_iff]; exact e2
  rw [if_neg e2] at ret
  ((try k_extra "rf"); (repeat' (first | (k_extra "wb") | ((k_extra "lE"); (k_extra "wo")))))
  rename News _ _ _ _ => N
  rename Fr _ _ _ _ => F
  have hN1 := N.isList (.head _)
  rw [slice_upto2, sv_size] at hN1
  refine eq_textsN hN1 ⟨_, F.keep _ _ hb, rfl, _, rfl⟩ List.map_take rfl (by show au + 3 < cLine; first | exact room hun rfl | exact room2 hun rfl | exact room3 hun rfl | omega) ?_
  clear hN1
  replace N := news_tail N
  by_cases e3 : (lc.map (·.1)).take lb.length = lb.map (·.1)
  · have q3 := decide_eq_true e3
    rw [if_pos e3] at ret
    ((try k_extra "rf"); (repeat' (first | (k_extra "wb") | (k_extra "wo"))))
    (try dsimp only)
    rename Fr _ _ _ _ => F
    exact ret _ _ _ F.keep
  · have q3 : ¬ (decide ((lc.map (·.1)).take lb.length = lb.map (·.1)) = true) := by rw [decide_eq_true_iff]; exact e3
    rw [if_neg e3] at ret
    ((try k_extra "rf"); (repeat' (first | (k_extra "wb") | (k_extra "wo"))))
    (try dsimp only)
    rename Fr _ _ _ _ => F
    exact ret _ _ _ F.keep

theorem ct_far {w : World} {A : Around} {Q : Value → Shared → Prop} {s : Shared} {p : Program} {loose : List Str} {mean : ExcName → Option Value} {mg mb : Str → Option Value}
    (X : (Mine.top.heap_1_39 w.params).In s.heap) (T : Top p loose mean mg mb s.heap) (hroom : A.depth + 20 < recursionLimit) (hh : A.handled = none) (hun : A.units + 60 < cLine)
    {b c : Addr} {lb lc : List (Str × Tok)} {nb nc : Nat} (hb : s.heap.get? b = some (lst lb nb)) (hc : s.heap.get? c = some (lst lc nc)) (zb : lb.length ≤ 10) (zc : lc.length ≤ 10)
    (ret : ∀ h' tk t, Stays s.heap h' → Q (.str (farF (lb.map (·.1)) (lc.map (·.1))) t) { s with heap := h', toks := tk }) :
    wpAny (model PySem.Challenge.rw_aa0007_01.row.prog w) A (call (.ref 1000) [.ref b, .ref c]) Q noE s := by
  refine aro hh hroom hun ?_
  clear hh hroom hun
  intro ad af ag au hroom hun
  revert X; k_fill; intro X
  k_dflt (refine' enterK (binds := [(Str.ofString "folder", Value.ref b), (Str.ofString "way", Value.ref c)]) ?k1 ?k2 ?k6 ?k7 ?k8 ?k9 ?kB ?_ ?c5 ?c2 ?c3 ?c4; ((case k1 => assumption); (case k2 => exact Top.nolimit (by assumption)); (case k6 => k_is); (case k7 => k_is); (case k8 => (try dsimp only); (first | exact (ch1 21 0 1 0 hroom (Eq.refl true)) | omega)); (case k9 => exact BindsTo.of_eq rfl); (case c5 => decide); (case kB => exact locs rfl); (case c2 => exact rfl); (case c3 => exact rfl); (case c4 => exact rfl)))
  intro h₁ F
  (try k_extra "en")
  have N : News s.heap s.heap.objs.size h₁ [] := News.nil
  have hbl : s.heap.IsList b (strValues lb).toArray := ⟨_, hb, rfl, _, rfl⟩
  have hcl : s.heap.IsList c (strValues lc).toArray := ⟨_, hc, rfl, _, rfl⟩
  have zbs : (strValues lb).toArray.size ≤ 10 := by rw [sv_size]; (first | exact (ch1 0 10 0 10 zb (Eq.refl true)) | omega)
  have zcs : (strValues lc).toArray.size ≤ 10 := by rw [sv_size]; (first | exact (ch1 0 10 0 10 zc (Eq.refl true)) | omega)
  ((try k_extra "rf"); (repeat' (first | (k_extra "wb") | ((k_extra "lE"); (k_extra "wo")))))
  rename News _ _ _ _ => N
  rename Fr _ _ _ _ => F
  refine ne_texts (l2 := []) ⟨_, F.keep _ _ hb, rfl, _, rfl⟩ (N.isList (.head _)) (by show au + 3 < cLine; first | exact room hun rfl | exact room2 hun rfl | exact room3 hun rfl | omega) ?_
  replace N := news_tail N
  unfold farF at ret
  by_cases e1 : lb.map (·.1) = []
  · have q1 : ¬ ((!decide (lb.map (·.1) = ([] : List (Str × Tok)).map (·.1))) = true) := by rw [e1]; decide
    rw [if_neg (fun z => z.1 e1)] at ret
    ((try k_extra "rf"); (repeat' (first | (k_extra "wb") | (k_extra "wo"))))
    (try dsimp only)
    rename Fr _ _ _ _ => F
    exact ret _ _ _ F.keep
  have q1 : (!decide (lb.map (·.1) = ([] : List (Str × Tok)).map (·.1))) = true := by rw [decide_eq_false (by exact e1)]; rfl
  ((try k_extra "rf"); (repeat' (first | (k_extra "wb") | ((k_extra "lE"); (k_extra "wo")))))
  rename News _ _ _ _ => N
  rename Fr _ _ _ _ => F
  have hN1 := N.isList (.head _)
  rw [slice_upto2, sv_size] at hN1
  refine eq_textsN hN1 ⟨_, F.keep _ _ hb, rfl, _, rfl⟩ List.map_take rfl (by show au + 3 < cLine; first | exact room hun rfl | exact room2 hun rfl | exact room3 hun rfl | omega) ?_
  clear hN1
  replace N := news_tail N
  rw [List.length_map] at ret
  by_cases e3 : (lc.map (·.1)).take lb.length = lb.map (·.1)
  · have q3 := decide_eq_true e3
    rw [if_pos ⟨e1, e3⟩] at ret
    ((try k_extra "rf"); (repeat' (first | (k_extra "wb") | (k_extra "wo"))))
    (try dsimp only)
    rename Fr _ _ _ _ => F
    exact ret _ _ _ F.keep
  · have q3 : ¬ (decide ((lc.map (·.1)).take lb.length = lb.map (·.1)) = true) := by rw [decide_eq_true_iff]; exact e3
    rw [if_neg (fun z => e3 z.2)] at ret
    ((try k_extra "rf"); (repeat' (first | (k_extra "wb") | (k_extra "wo"))))
    (try dsimp only)
    rename Fr _ _ _ _ => F
    exact ret _ _ _ F.keep
end TG3
section TP7
open PySem PySem.W PyProof.Rows PySem.Calls
set_option maxHeartbeats 4000000
theorem pre_rep {α : Type} (d : α) : ∀ (a b : Nat) (u v : List α), d ∉ u → d ∉ v → (List.replicate a d ++ u <+: List.replicate b d ++ v ↔ (a = b ∧ u <+: v) ∨ (u = [] ∧ a ≤ b))
  | 0, 0, u, v, _, _ => by
    simp only [List.replicate_zero, List.nil_append, true_and, Nat.le_refl, and_true]
    exact ⟨.inl, fun h => h.elim id fun e => e ▸ List.nil_prefix⟩
  | 0, b + 1, u, v, hu, _ => by
    simp only [List.replicate_zero, List.nil_append, List.replicate_succ, List.cons_append]
    cases u with
    | nil => simp
    | cons x u =>
      rw [List.cons_prefix_cons]
      constructor
      · rintro ⟨rfl, _⟩; exact absurd (.head _) hu
      · rintro (⟨h, _⟩ | ⟨h, _⟩) <;> cases h
  | a + 1, 0, u, v, _, hv => by
    simp only [List.replicate_zero, List.nil_append, List.replicate_succ, List.cons_append]
    constructor
    · rintro ⟨r, h⟩
      exact absurd (by rw [← h]; exact .head _) hv
    · rintro (⟨h, _⟩ | ⟨_, h⟩)
      · cases h
      · (first | exact (ch1 1 0 1 0 z (Eq.refl true)) | exact (ch0 0 1 (Eq.refl true)) | exact (lin1 3 [_, _, _] 0 (.a (.v 0) (.v 1)) (.a (.v 2) (.v 0)) 1 (.v 1) (.v 2) ih rfl (Eq.refl true)) | exact (ch2 0 1 0 200 1 1000 (Nat.le_of_eq xl) hj (Eq.refl true)) | exact (Nat.ne_of_gt (lin1 2 [_, _] 0 (.a (.k 0) (.k 1)) (.v 0) 1 (.a (.v 1) (.k 1)) (.v 0) (Nat.le_of_eq xl.symm) rfl (Eq.refl true))) | exact (ch1 0 20 1 100 hl (Eq.refl true)) | omega)
  | a + 1, b + 1, u, v, hu, hv => by
    simp only [List.replicate_succ, List.cons_append]
    rw [List.cons_prefix_cons, pre_rep d a b u v hu hv]
    simp only [true_and, Nat.add_right_cancel_iff, Nat.add_le_add_iff_right]
theorem cpre_max : ∀ (u v : List Str) (j : Nat), j ≤ u.length → j ≤ v.length → u.take j = v.take j → j ≤ (cpre u v).length
  | _, _, 0, _, _, _ => Nat.zero_le _
  | [], _, j + 1, h, _, _ => by simp at h
  | _ :: _, [], j + 1, _, h, _ => by simp at h
  | x :: u, y :: v, j + 1, h1, h2, h3 => by
    simp only [List.take_succ_cons, List.cons.injEq] at h3
    obtain ⟨rfl, h3⟩ := h3
    have := cpre_max u v j (by simpa using h1) (by simpa using h2) h3
    simp [cpre]; (first | exact (ch1 0 0 0 0 this (Eq.refl true)) | omega)
theorem near_a {P D W W' e c : Nat} (hW : W = W' + 1) (h3 : e ≤ W') (hc : c = D) (h : e ≤ D) : P - c + (D - c) < P - e + (W - e) := by
  subst hc; subst hW
  rw [Nat.sub_self]
  exact Nat.add_lt_add_of_le_of_lt (Nat.sub_le_sub_left h P) (Nat.sub_pos_of_lt (Nat.lt_succ_of_le h3))
theorem near_iff {P D W W' : List Str} {z : Str} (hW : W' ++ [z] = W) (hzP : z ∉ P) (hzD : z ∉ D) (hdD : Str.ofString ".." ∉ D) (hdW : Str.ofString ".." ∉ W) :
    dg (decide (rel P D ≠ [] ∧ rel P D <+: rel P W ∧ (rel P D).length < (rel P W).length)) = nearF P D W := by
  have hc1 := cpre_both P D
  have he1 := cpre_both P W
  have hc2 : (cpre P D).length ≤ P.length := cpre_len P D
  have hc3 : (cpre P D).length ≤ D.length := by rw [cpre_comm]; exact cpre_len D P
  have he2 : (cpre P W).length ≤ P.length := cpre_len _ _
  have he3 : (cpre P W).length ≤ W'.length := by rw [← hW]; exact cpre_short hzP
  have hmax := cpre_max P D
  have hWl : W.length = W'.length + 1 := by rw [← hW]; simp
  have hzW : z ∈ W := by rw [← hW]; simp
  generalize hc : (cpre P D).length = c at *
  generalize he : (cpre P W).length = e at *
  have hPD : P.take c = D.take c := by rw [← hc1.1, ← hc1.2]
  have hPW : P.take e = W.take e := by rw [← he1.1, ← he1.2]
  have hrD : rel P D = List.replicate (P.length - c) (Str.ofString "..") ++ D.drop c := by unfold rel; rw [hc]
  have hrW : rel P W = List.replicate (P.length - e) (Str.ofString "..") ++ W.drop e := by unfold rel; rw [he]
  have hpre := pre_rep (Str.ofString "..") (P.length - c) (P.length - e) (D.drop c) (W.drop e) (fun h => hdD (List.mem_of_mem_drop h)) (fun h => hdW (List.mem_of_mem_drop h))
  have hlD : (rel P D).length = P.length - c + (D.length - c) := by rw [hrD]; simp
  have hlW : (rel P W).length = P.length - e + (W.length - e) := by rw [hrW]; simp
  rw [← hrD, ← hrW] at hpre
  unfold nearF
  by_cases h1 : D = P
  · subst h1
    rw [if_pos rfl]
    have : D.length ≤ c := hmax D.length (Nat.le_refl _) (Nat.le_refl _) rfl
    have : rel D D = [] := List.length_eq_zero_iff.mp (by (first | exact (Nat.le_antisymm (lin3 4 [_, _, _, _] 0 (.v 0) (.k 0) 1 (.v 0) (.a (.v 1) (.v 1)) 2 (.v 2) (.v 3) 2 (.a (.v 1) (.v 3)) (.v 2) (Nat.le_of_eq hlD) this (Nat.le_of_eq (Nat.sub_add_cancel (lin1 2 [_, _] 0 (.v 0) (.v 1) 1 (.v 0) (.v 1) hc3 rfl (Eq.refl true)))) rfl (Eq.refl true)) (lin0 1 [_] (.k 0) (.v 0) rfl (Eq.refl true))) | omega))
    rw [decide_eq_false (fun h => h.1 this)]; rfl
  · rw [if_neg h1]
    by_cases h2 : P.take D.length = D
    · rw [if_pos h2, he]
      have hle : D.length ≤ P.length := by have := congrArg List.length h2; rw [List.length_take] at this; (first | exact (lin2 3 [_, _, _] 0 (.v 0) (.v 1) 1 (.v 0) (.v 2) 1 (.v 2) (.v 1) (Nat.le_of_eq this.symm) (Nat.min_le_right _ _) rfl (Eq.refl true)) | omega)
      have hcD : c = D.length := by
        have := hmax D.length hle (Nat.le_refl _) (by rw [h2, List.take_length])
        (first | exact (ch3 0 0 1 0 1 0 0 0 hC hCD z (Eq.refl true)) | exact (ch2 1 0 0 0 1 0 hlt (Nat.le_of_eq this.symm) (Eq.refl true)) | exact (ch3 821 0 0 0 1 0 2 0 z0 hC hCD (Eq.refl true)) | exact (And.intro (lin0 1 [_] (.k 5) (.a (.v 0) (.a (.a (.a (.a (.a (.k 0) (.k 1)) (.k 1)) (.k 1)) (.k 1)) (.k 1))) rfl (Eq.refl true)) (lin1 1 [_] 0 (.a (.v 0) (.a (.a (.a (.a (.a (.k 0) (.k 1)) (.k 1)) (.k 1)) (.k 1)) (.k 1))) (.k 11) 1 (.v 0) (.k 6) (Nat.min_le_left _ _) rfl (Eq.refl true))) | exact (lin1 1 [_] 0 (.a (.a (.a (.k 0) (.k 1)) (.v 0)) (.k 1)) (.k 1000) 1 (.v 0) (.k 200) this rfl (Eq.refl true)) | exact (Nat.le_antisymm (lin1 2 [_, _] 0 (.v 0) (.v 1) 1 (.v 0) (.v 1) hc3 rfl (Eq.refl true)) (lin1 2 [_, _] 0 (.v 0) (.v 1) 1 (.v 0) (.v 1) this rfl (Eq.refl true))) | exact (lin2 2 [_, _] 0 (.a (.a (.v 0) (.v 1)) (.k 1)) (.k 900) 1 (.v 1) (.k 200) 1 (.v 0) (.k 1) h1 (Nat.le_of_eq this) rfl (Eq.refl true)) | exact (ch4 0 0 0 0 1 11 1000 0 0 0 (Nat.le_of_eq h1) h2 zi h3 (Eq.refl true)) | exact (ch4 0 0 0 0 1 11 1000 0 0 0 (Nat.le_of_eq h1) h2 zi z1000 (Eq.refl true)) | omega)
      have hlt : D.length < P.length := by
        rcases Nat.lt_or_ge D.length P.length with h | h
        · exact h
        · rw [List.take_of_length_le h] at h2; exact absurd h2.symm h1
      have hu : D.drop c = [] := by rw [hcD, List.drop_length]
      have iff1 : (rel P D ≠ [] ∧ rel P D <+: rel P W ∧ (rel P D).length < (rel P W).length) ↔ e ≤ D.length := by
        rw [hpre, hlD, hlW]
        constructor
        · rintro ⟨_, h | h, _⟩ <;> (first | exact (lin4 6 [_, _, _, _, _, _] 0 (.v 0) (.v 1) 1 (.v 2) (.v 1) 1 (.v 3) (.v 4) 1 (.v 5) (.a (.v 3) (.v 2)) 1 (.a (.v 4) (.v 0)) (.v 5) (Nat.le_of_eq hcD) (Nat.le_of_eq h.1) (Nat.le_add_of_sub_le (Nat.le_refl _)) (Nat.le_of_eq (Nat.sub_add_cancel (lin1 2 [_, _] 0 (.v 0) (.v 1) 1 (.v 0) (.v 1) he2 rfl (Eq.refl true)))) rfl (Eq.refl true)) | exact (lin4 6 [_, _, _, _, _, _] 0 (.v 0) (.v 1) 1 (.v 2) (.v 1) 1 (.v 3) (.v 4) 1 (.v 5) (.a (.v 3) (.v 2)) 1 (.a (.v 4) (.v 0)) (.v 5) (Nat.le_of_eq hcD) h.2 (Nat.le_add_of_sub_le (Nat.le_refl _)) (Nat.le_of_eq (Nat.sub_add_cancel (lin1 2 [_, _] 0 (.v 0) (.v 1) 1 (.v 0) (.v 1) he2 rfl (Eq.refl true)))) rfl (Eq.refl true)) | omega)
        · intro h
          refine ⟨fun z => absurd (List.length_eq_zero_iff.mpr z) ?_, .inr ⟨hu, by rw [hcD]; exact Nat.sub_le_sub_left h _⟩, near_a hWl he3 hcD h⟩
          rw [hlD, hcD]
          exact Nat.ne_of_gt (Nat.lt_of_lt_of_le (Nat.sub_pos_of_lt hlt) (Nat.le_add_right _ _))
      by_cases h3 : e ≤ D.length
      · rw [if_pos h3, decide_eq_true (iff1.mpr h3)]; rfl
      · rw [if_neg h3, decide_eq_false (fun z => h3 (iff1.mp z))]; rfl
    · rw [if_neg h2]
      have hcD : c < D.length := by
        rcases Nat.lt_or_ge c D.length with h | h
        · exact h
        · have e1 : c = D.length := by (first | exact (Nat.le_antisymm (lin1 2 [_, _] 0 (.v 0) (.v 1) 1 (.v 0) (.v 1) hc3 rfl (Eq.refl true)) (lin1 2 [_, _] 0 (.v 0) (.v 1) 1 (.v 0) (.v 1) h rfl (Eq.refl true))) | omega)
          rw [e1, List.take_length] at hPD
          exact absurd hPD h2
      have iff2 : (rel P D ≠ [] ∧ rel P D <+: rel P W ∧ (rel P D).length < (rel P W).length) ↔ W.take D.length = D := by
        rw [hpre, hlD, hlW]
        constructor
        · rintro ⟨_, h | h, _⟩
          · have hec : e = c := by (first | exact (Nat.le_antisymm (lin3 5 [_, _, _, _, _] 0 (.v 0) (.v 1) 1 (.v 2) (.v 3) 1 (.v 4) (.a (.v 2) (.v 1)) 1 (.a (.v 3) (.v 0)) (.v 4) (Nat.le_of_eq h.1) (Nat.le_add_of_sub_le (Nat.le_refl _)) (Nat.le_of_eq (Nat.sub_add_cancel (lin1 2 [_, _] 0 (.v 0) (.v 1) 1 (.v 0) (.v 1) he2 rfl (Eq.refl true)))) rfl (Eq.refl true)) (lin3 5 [_, _, _, _, _] 0 (.v 0) (.v 1) 1 (.v 2) (.v 3) 1 (.a (.v 3) (.v 0)) (.v 4) 1 (.v 4) (.a (.v 2) (.v 1)) (Nat.le_of_eq h.1.symm) (Nat.le_of_eq (Nat.sub_add_cancel (lin1 2 [_, _] 0 (.v 0) (.v 1) 1 (.v 0) (.v 1) hc2 rfl (Eq.refl true)))) (Nat.le_add_of_sub_le (Nat.le_refl _)) rfl (Eq.refl true))) | omega)
            subst hec
            have h4 : D <+: W := by
              obtain ⟨r, hr⟩ := h.2
              exact ⟨r, by rw [← List.take_append_drop e D, ← List.take_append_drop e W, ← hr, ← hPD, hPW, List.append_assoc]⟩
            exact (List.prefix_iff_eq_take.mp h4).symm
          · exact absurd (List.drop_eq_nil_iff.mp h.1) (Nat.not_le.mpr hcD)
        · intro h
          have hDW : D <+: W := List.prefix_iff_eq_take.mpr h.symm
          have hl : D.length < W.length := by
            rcases Nat.lt_or_ge D.length W.length with h' | h'
            · exact h'
            · rw [List.take_of_length_le h'] at h
              exact absurd (h ▸ hzW) hzD
          have hec : e = c := by
            rw [← he]
            refine cpre_down P W c hc2 ?_ ?_
            · rw [hPD, ← h, List.take_take, Nat.min_eq_left (by (first | exact (ch1 0 0 0 0 hc3 (Eq.refl true)) | omega))]
            · intro hcP h5
              have h6 : W.take (c + 1) = D.take (c + 1) := by rw [← h, List.take_take, Nat.min_eq_left (by (first | exact (ch1 1 0 1 0 hcD (Eq.refl true)) | omega))]
              have := hmax (c + 1) (by (first | exact (ch1 1 0 1 0 hcP (Eq.refl true)) | omega)) (by (first | exact (ch1 1 0 1 0 hcD (Eq.refl true)) | omega)) (by rw [← h5, h6])
              (first | exact (ch3 0 0 1 0 1 0 0 0 hC hCD z (Eq.refl true)) | exact (ch2 1 0 0 0 1 0 hlt (Nat.le_of_eq this.symm) (Eq.refl true)) | exact (ch3 821 0 0 0 1 0 2 0 z0 hC hCD (Eq.refl true)) | exact (And.intro (lin0 1 [_] (.k 5) (.a (.v 0) (.a (.a (.a (.a (.a (.k 0) (.k 1)) (.k 1)) (.k 1)) (.k 1)) (.k 1))) rfl (Eq.refl true)) (lin1 1 [_] 0 (.a (.v 0) (.a (.a (.a (.a (.a (.k 0) (.k 1)) (.k 1)) (.k 1)) (.k 1)) (.k 1))) (.k 11) 1 (.v 0) (.k 6) (Nat.min_le_left _ _) rfl (Eq.refl true))) | exact (lin1 1 [_] 0 (.a (.a (.a (.k 0) (.k 1)) (.v 0)) (.k 1)) (.k 1000) 1 (.v 0) (.k 200) this rfl (Eq.refl true)) | exact (Nat.le_antisymm (lin1 2 [_, _] 0 (.v 0) (.v 1) 1 (.v 0) (.v 1) hc3 rfl (Eq.refl true)) (lin1 2 [_, _] 0 (.v 0) (.v 1) 1 (.v 0) (.v 1) this rfl (Eq.refl true))) | exact (lin2 2 [_, _] 0 (.a (.a (.v 0) (.v 1)) (.k 1)) (.k 900) 1 (.v 1) (.k 200) 1 (.v 0) (.k 1) h1 (Nat.le_of_eq this) rfl (Eq.refl true)) | exact (ch4 0 0 0 0 1 11 1000 0 0 0 (Nat.le_of_eq h1) h2 zi h3 (Eq.refl true)) | exact (ch4 0 0 0 0 1 11 1000 0 0 0 (Nat.le_of_eq h1) h2 zi z1000 (Eq.refl true)) | omega)
          refine ⟨fun z => absurd (List.length_eq_zero_iff.mpr z) ?_, .inl ⟨by rw [hec], ?_⟩, by rw [hec]; exact Nat.add_lt_add_left (Nat.sub_lt_sub_right (Nat.le_of_lt hcD) hl) _⟩
          · rw [hlD]
            exact Nat.ne_of_gt (Nat.lt_of_lt_of_le (Nat.sub_pos_of_lt hcD) (Nat.le_add_left _ _))
          · rw [hec]
            obtain ⟨r, hr⟩ := hDW
            exact ⟨r, by rw [← hr, List.drop_append_of_le_length (by (first | exact (ch1 0 0 0 0 hc3 (Eq.refl true)) | omega))]⟩
      by_cases h3 : W.take D.length = D
      · rw [if_pos h3, decide_eq_true (iff2.mpr h3)]; rfl
      · rw [if_neg h3, decide_eq_false (fun z => h3 (iff2.mp z))]; rfl
end TP7
section TS11
open PySem PySem.W PyProof.Rows PySem.Calls
set_option maxHeartbeats 8000000

theorem law_s11 {w : World} {A : Around} {s : Shared} {p : Program} {loose : List Str} {mean : ExcName → Option Value} {mg mb : Str → Option Value} {base h : Heap} {tk : Nat} {L fa : Addr} {cd : Value}
    (X : (Mine.top.heap_1_39 w.params).In base) (T : Top p loose mean mg mb base) (hroom : A.depth + 100 < recursionLimit) (hh : A.handled = none) (hun : A.units + 100 < cLine)
    {n : LN} {cp ch cr cf : Option Value} {W : List (Addr × Obj)} {a b : Addr} {t1 t2 : PT} (hc : n.close = some (.ref a)) (hw : n.wide = some (.ref b)) (ha : Bears W t1 (.ref a)) (hb : Bears W t2 (.ref b))
    (St : LSt base L h n cp ch cr cf W)
    {Q : Flow → Shared → Prop} (ret : ∀ h' tk' tl, LSt base L h' { n with told := some (.ref tl) } cp ch cr cf ((tl, PySem.W.listOf #[.ref a, .ref b] 0) :: W) → (∀ p ∈ W, @LT.lt Nat _ p.1 tl) → @LT.lt Nat _ (L + 4) tl → BearsL W [t1, t2] [.ref a, .ref b] → Q .next { s with heap := h', toks := tk' }) :
    wpAny (model PySem.Challenge.rw_aa0007_01.row.prog w) A (exec (lawSt 11) (lawEnv L fa cd)) Q noE { s with heap := h, toks := tk } := by
  (refine aro hh hroom hun ?_; clear hh hroom hun; intro ad af ag au hroom hun; obtain ⟨F, ⟨o1, o2, o3, o4, d1, d2, d3, d4, N⟩, hl⟩ := St)
  refine hideL ?_; intro gg1
  obtain ⟨script, numbers, folders, files, k, way, begn, letter, near, seen, word, close, plain, wide, told, due⟩ := n
  k_unfold
  (try dsimp only at ret)
  obtain rfl : close = _ := hc
  obtain rfl : wide = _ := hw
  (refine' st_as ?e1 ?e2 ?_; (case e1 => (conv => lhs; whnf)); (case e2 => (conv => lhs; unfold lawEnv; arg 2; whnf)); intro env' A' gg dd oo; revert X; k_fill; intro X)
  ((try k_extra "rf"); (repeat' (first | (k_extra "w1") | (k_end; (k_extra "lAn"); (k_extra "vn")) | (k_extra "rq") | (k_extra "wo"))))
  ((try dsimp only); rename News _ _ _ _ => N; rename Fr _ _ _ _ => F; (try dsimp only at F N))
  rename (_ ∧ _ ∧ _ ∧ _ ∧ AllLt _ _) => bl
  rw [lm_told] at F
  exact ret _ _ _ ⟨F, ⟨o1, o2, o3, o4, d1, d2, d3, d4, lst_news (pre := [_]) (X := [_]) N (fun _ z => z)⟩, isL_cons hl⟩ (fun q hq => allLt_mem bl.2.2.2.2 q hq) bl.1 (bearsL_cons ha (bearsL_cons hb bearsL_nil))
end TS11
section TS12
open PySem PySem.W PyProof.Rows PySem.Calls
set_option maxHeartbeats 8000000

noncomputable def NpOk (w : World) (base : Heap) (d : Nat) (x y : Str) (s : Shared) : Prop := ∀ (A' : Around) (h : Heap) (tk : Nat) (Q' : Value → Shared → Prop) (t : Tok), A'.handled = none → A'.depth ≤ d + 20 → Stays base h → (∀ h' tk' t', Stays h h' → Q' (.str y t') { s with heap := h', toks := tk' }) → wpAny (model PySem.Challenge.rw_aa0007_01.row.prog w) A' (call (.ref 813) [.str x t]) Q' noE { s with heap := h, toks := tk }
inductive DigI (w : World) (fs : List Nat) (g : Nat → Str) (Wd : List (Addr × Obj)) (Di : Addr) (i : Nat) (ys : List Value) (news : List (Addr × Obj)) : Prop where
  | mk (lz : List (Str × Tok)) (oE : Obj) (kvs : List (Str × Value)) (e : ys = strValues lz) (hl : lz.map (·.1) = (fs.take i).map g) (en : news = (Di, oE) :: Wd) (hI : Obj.IsDictOf (PySem.strKind PySem.Challenge.rw_aa0007_01.row.prog w) oE kvs) (hfr : Fresh fs i kvs)
theorem law_s12 {w : World} {A : Around} {s : Shared} {p : Program} {loose : List Str} {mean : ExcName → Option Value} {mg mb : Str → Option Value} {base h : Heap} {tk : Nat} {L fa : Addr} {cd : Value}
    (X : (Mine.top.heap_1_39 w.params).In base) (T : Top p loose mean mg mb base) (hroom : A.depth + 100 < recursionLimit) (hh : A.handled = none) (hun : A.units + 100 < cLine)
    {n : LN} {cp ch cr cf : Option Value} {W : List (Addr × Obj)} {tl cl nr : Addr} {lw : List (Str × Tok)} {c nt : Nat} {ns : List Int} {ks fs : List Nat} {vs : Array Value} {ts : List PT} {W0 : List (Addr × Obj)}
    (hnear : n.near = some (.ref nr)) (hm : (nr, PySem.W.listOf (strValues lw).toArray c) ∈ W0) (hlk : lw.map (·.1) = ks.map (folW ns)) (hkl : ks.length ≤ 11) (hkk : ∀ k ∈ ks, k < 11)
    (hclose : n.close = some (.ref cl)) (hcb : Bears W0 (.l (fs.map fun k => .l [.s (filW ns k), .s (letK k)])) (.ref cl)) (hfl : fs.length ≤ 11) (hff : ∀ k ∈ fs, k < 11) (hnd : fs.Nodup)
    (htold : n.told = some (.ref tl)) (hW : W = (tl, PySem.W.listOf vs nt) :: W0) (hvb : BearsL W0 ts vs.toList) (hvz : vs.size ≤ 50) (hap : ∀ p ∈ W0, @Ne Nat p.1 tl) (hL : @LT.lt Nat _ (L + 4) tl)
    (hnp : ∀ k, k < 11 → NpOk w base A.depth (folW ns k) (folW ns k) s)
    (St : LSt base L h n cp ch cr cf W)
    {Q : Flow → Shared → Prop} (ret : ∀ h' tk' wv rv vs' nt' X, LSt base L h' { n with word := wv } cp ch rv cf ((tl, PySem.W.listOf vs' nt') :: (X ++ W0)) → vs'.size = vs.size + ks.length → BearsL (X ++ W0) (ts ++ ks.map fun k => .l [.s (folW ns k), .s (Txt.join (Str.ofString "") (fs.map fun j => dg (Txt.startswith (filW ns j) (folW ns k ++ Str.ofString "/"))))]) vs'.toList → (∀ p ∈ X ++ W0, @Ne Nat p.1 tl) → Q .next { s with heap := h', toks := tk' }) :
    wpAny (model PySem.Challenge.rw_aa0007_01.row.prog w) A (exec (lawSt 12) (lawEnv L fa cd)) Q noE { s with heap := h, toks := tk } := by
  (obtain ⟨ah, ad, af, ag, au⟩ := A; obtain rfl : ah = none := hh; dsimp only at hroom hun; obtain ⟨F, ⟨o1, o2, o3, o4, d1, d2, d3, d4, N⟩, hl⟩ := St)
  refine hideL ?_; intro gg1
  obtain ⟨script, numbers, folders, files, k, way, begn, letter, near, seen, word, close, plain, wide, told, due⟩ := n
  k_unfold
  (try dsimp only at ret)
  obtain rfl : near = _ := hnear
  obtain rfl : close = _ := hclose
  obtain rfl : told = _ := htold
  subst hW
  (refine' st_as ?e1 ?e2 ?_; (case e1 => (conv => lhs; whnf)); (case e2 => (conv => lhs; unfold lawEnv; arg 2; whnf)); intro env' A' gg dd oo; revert X; k_fill; intro X)
  have hz : lw.length = ks.length := by have := congrArg List.length hlk; simpa using this
  have hz2 : (strValues lw).toArray.size = ks.length := by rw [sv_size, hz]
  have z1000 : (1000 : Nat) ≤ sizeLine := by decide
  refine hideL ?_; intro gg2
  obtain ⟨its, nf, hmc, hbc⟩ := bears_ref hcb
  k_unfold
  have hzf : its.size = fs.length := by rw [← Array.length_toList, bearsL_len hbc, List.length_map]
  refine for_list3 (hs := by intro _; rfl) (items := (strValues lw).toArray) (P := P12 nr tl L o1 o2 o4 (fun wv => { script := script, numbers := numbers, folders := folders, files := files, k := k, way := way, begn := begn, letter := letter, near := some (.ref nr), seen := seen, word := wv, close := some (.ref cl), plain := plain, wide := wide, told := some (.ref tl), due := due }) vs.size ts ks (fun k => PT.l [.s (folW ns k), .s (Txt.join (Str.ofString "") (fs.map fun j => dg (Txt.startswith (filW ns j) (folW ns k ++ Str.ofString "/"))))]) W0)
    (h₀ := base) rfl ?_ ?_ ?_ ?_
  · rintro l B i m' n' h hp3_6 F N
    refine hideL ?_; intro gg3
    obtain ⟨rfl, wv, rv, o3', vt, nt, X, rfl, rfl, _⟩ := hp3_6
    k_unfold
    exact ⟨_, (N (l, PySem.W.listOf (strValues lw).toArray c) (by repeat' first | exact List.Mem.head _ | exact hm | exact List.mem_append_right _ hm | refine' List.Mem.tail _ ?_)).1, rfl, _, rfl⟩
  · ((try k_extra "rf"); (repeat' (first | (k_extra "w1") | (k_end; (k_extra "lEx"); (k_extra "vn")) | (k_extra "rq") | (k_extra "wo"))))
    rename News _ _ _ _ => N
    rename Fr _ _ _ _ => F
    exact ⟨_, _, _, _, _, rfl, rfl, F, N, rfl, word, cr, o3, vs, nt, [], rfl, rfl, d3, rfl, by rw [List.take_zero, List.map_nil, List.append_nil]; exact hvb, List.forall_mem_nil _, Heap.lt_size (N _ (.tail _ (.tail _ (.tail _ (.tail _ (.head _)))))).1⟩
  · rintro l i v m₁ n₁ h tk I oI hv hp4_10 hne F N
    refine hideL ?_; intro gg4
    obtain ⟨rfl, wv, rv, o3', vt, nt, Xs, rfl, rfl, hd3, hvt, hb, hX, htI⟩ := hp4_10
    k_unfold
    replace F : Fr base L h _ := F
    replace N : News base L h _ := N
    refine hideL ?_; intro gg5
    obtain ⟨k0, u0, hk0, rfl⟩ : ∃ k0 u0, ks[i]? = some k0 ∧ v = .str (folW ns k0) u0 := sv_pick (g := folW ns) hlk hv
    k_unfold
    have hkm : k0 < 11 := hkk k0 (List.mem_of_getElem? hk0)
    have hik : i < ks.length := (List.getElem?_eq_some_iff.mp hk0).1
    ((try k_extra "rf"); (repeat' (first | (k_extra "wb") | ((k_extra "lC"); (k_extra "wo")))))
    rename News _ _ _ _ => N
    rename Fr _ _ _ _ => F
    rename (@LT.lt Nat _ I _ ∧ _) => bw
    k_dflt (refine' call_cls F X N ?k4 ?k5 ?k6 ?_; (case k4 => k_is); (case k5 => k_is); (case k6 => k_is))
    intro q dx h1 F1 N1 l1 l2
    have hLw := (N1 _ (.tail _ (.tail _ (.head _)))).1
    refine ct_iinit (h₀ := base) X T F1.keep (by show ad + 1 + 40 < recursionLimit; first | exact room hroom rfl | exact room2 hroom rfl | exact room3 hroom rfl | omega) rfl _ (folW ns k0) _ q dx _ (N1 _ (.head _)).1 (N1 _ (.tail _ (.head _))).1 hLw l2 (l1 _ (.head _)) (N1 _ (.head _)).2.2 (N1 _ (.tail _ (.head _))).2.2 (N1 _ (.tail _ (.tail _ (.head _)))).2.2 ?_ ?_
    · intro A' hx tkx Q' e1 e2 e3 e4
      have e2' : A'.depth ≤ ad + 1 + 10 := e2
      exact hnp k0 hkm A' hx tkx Q' u0 e1 (by show A'.depth ≤ ad + 20; (first | exact (ch1 0 11 0 20 e2' (Eq.refl true)) | omega)) e3 e4
    intro h2 tk2 Sx Ld Di ui kp IG IA n1 n2 n3
    refine hideL ?_; intro gg6
    obtain ⟨a1, a2, ⟨a3, a4, a5⟩, ⟨a6, a7, a8, a9⟩⟩ := IA
    obtain ⟨w1, w2, w3, hdx⟩ := IG.hdx
    obtain ⟨led, hS⟩ := IG.hS
    obtain ⟨tD, hLd⟩ := IG.hL
    obtain ⟨oD, hD, hI⟩ := IG.hD
    k_unfold
    have hds := IG.hds
    have b1 : @LT.lt Nat _ (L + 1 + 1 + 1 + 1) dx := l1 (L + 1 + 1 + 1 + 1, o4) (by k_mem)
    have oldA := fst_lt l1
    have ap : ∀ p : Addr × Obj, p ∈ _ → p.1 ∉ [q, dx] := fun p hp => by
      have h1 := l1 p hp
      have h1 : @LT.lt Nat _ p.1 dx := h1
      have h2 : @LT.lt Nat _ dx q := l2
      simp only [List.mem_cons, List.not_mem_nil, or_false, not_or]
      exact ⟨Nat.ne_of_lt (Nat.lt_trans h1 h2), Nat.ne_of_lt h1⟩
    have F2 : Fr base L h2 _ := fr_kept F1 kp (List.forall_mem_cons.mpr ⟨(N1 _ (.head _)).2, List.forall_mem_cons.mpr ⟨(N1 _ (.tail _ (.head _))).2, List.forall_mem_nil _⟩⟩)
    have N2 : News base L h2 ((Di, oD) :: (Ld, LCg.lst [.str (folW ns k0) tD]) :: (Sx, setO led) :: (q, instObj 954 dx) :: (dx, dictOf (igD w w1 w2 w3 Sx Ld Di) 3) :: _) := news_fresh F1 n3 hD (news_fresh F1 n2 hLd (news_fresh F1 n1 hS (news_get N1 (.head _) IG.hq (news_get N1 (.tail _ (.head _)) hdx (news_apart kp (news_tail (news_tail N1)) ap)))))
    dsimp only at n1 n2 n3
    have htl := (N1 (tl, PySem.W.listOf vt nt) (by k_mem)).1
    have eLd : @Ne Nat Ld tl := fun z => by have z : Ld = tl := z; rw [z, htl] at n2; cases n2
    have edx : @LT.lt Nat _ tl dx := l1 (tl, PySem.W.listOf vt nt) (by k_mem)
    clear F N F1 N1 n1 n2 n3 htl
    (try dsimp only [InitBack])
    (try refine ⟨rfl, ?_⟩)
    (try dsimp only)
    (try refine handed_on rfl ?_)
    (try dsimp only)
    rw [lm_word] at F2
    dsimp only at F2
    have hd2 : ∀ d, NoC L (Di, d) := fun d => .inr (by show @LT.lt Nat _ (L + 4) Di; (first | exact (ch2 5 0 1 0 5 0 b1 a9 (Eq.refl true)) | omega))
    refine st_reader (pre := [_, _, _, _, _, _, _]) F2 N2 hd3 ?_ ?_ ?_
    · refine List.forall_mem_cons.mpr ⟨.inr (by show @LT.lt Nat _ (L + 4) Di; (first | exact (ch2 5 0 1 0 5 0 b1 a9 (Eq.refl true)) | omega)), List.forall_mem_cons.mpr ⟨.inl (fun v z => by cases z), List.forall_mem_cons.mpr ⟨.inl (fun v z => by cases z), List.forall_mem_cons.mpr ⟨.inl (fun v z => by cases z), List.forall_mem_cons.mpr ⟨.inl (fun v z => by cases z), List.forall_mem_cons.mpr ⟨.inl (fun v z => by cases z), List.forall_mem_cons.mpr ⟨.inr (by show @LT.lt Nat _ (L + 4) I; (first | exact (ch2 5 0 1 0 5 0 hL htI (Eq.refl true)) | omega)), List.forall_mem_nil _⟩⟩⟩⟩⟩⟩⟩
    · refine isL_cons (fun p hp => ?_)
      rcases List.mem_append.mp hp with hp | hp
      · exact (hX p hp).1
      · exact hl p (.tail _ hp)
    intro h3 o3r F3 N3 d3r
    dsimp only [List.cons_append, List.nil_append] at N3
    clear F2 N2 hd2
    have ap2 := apart_di N3 (Nat.ne_of_lt a6) (Nat.ne_of_lt a7) (Nat.ne_of_lt a8) (Nat.ne_of_lt a9) oldA a9
    (try dsimp only)
    ((try k_extra "rf"); (repeat' (first | (k_extra "v0") | (k_extra "wn") | ((k_extra "ge"); (k_extra "lL"); (k_extra "ve")) | ((k_extra "gx"); (k_extra "vx")) | (k_extra "rq") | ((k_extra "lL"); (k_extra "wo")))))
    rename News _ _ _ _ => N
    rename Fr _ _ _ _ => F
    refine LCg.ListComp_U (F₀ := F) (by with_unfolding_all rfl) (by decide) (by rfl) (by decide) (by rfl) ?_
    ((try k_extra "rf"); (repeat' (first | (k_extra "wb") | (k_extra "wo"))))
    rename News _ _ _ _ => N
    rename Fr _ _ _ _ => F
    refine LCg.CompSrc.ledger (its := its) (k := nf) rfl F N (by repeat' first | exact List.Mem.head _ | exact hmc | exact List.mem_append_right _ hmc | refine' List.Mem.tail _ ?_) (by rw [hzf]; exact Nat.le_trans hfl (by decide)) fun g => ?_
    refine comp_inv (n := its.size) (DigI w fs (fun j => dg (Txt.startswith (filW ns j) ((folW ns k0) ++ Str.ofString "/"))) _ Di) ?_ ?_ its.size 0 [] _ (Nat.zero_add _) ⟨[], oD, _, rfl, rfl, rfl, hI, fresh_zero fs _⟩
    · rintro i2 v ys news I2 oI2 C oC D m₂ h tk E' hi hv hp7_15 hC hx F N off ne
      refine hideL ?_; intro gg7
      obtain ⟨lz, oE, kvs, rfl, hlz, rfl, hI2, hfr⟩ := hp7_15
      k_unfold
      obtain ⟨tr, htr, hbv⟩ := bearsL_get hbc i2 v (by rw [Array.getElem?_toList]; exact hv)
      refine hideL ?_; intro gg8
      obtain ⟨j0, hj0, rfl⟩ : ∃ j0, fs[i2]? = some j0 ∧ tr = .l [.s (filW ns j0), .s (letK j0)] := map_get htr
      k_unfold
      have hjm : j0 < 11 := hff j0 (List.mem_of_getElem? hj0)
      refine hideL ?_; intro gg9
      obtain ⟨r, vr, nv, rfl, hmr, hbr⟩ := bears_of_l hbv
      obtain ⟨t1, hv0⟩ := bearsL_str hbr 0 (x := filW ns j0) rfl
      obtain ⟨t2, hv1⟩ := bearsL_str hbr 1 (x := letK j0) rfl
      k_unfold
      ((try k_extra "rf"); (repeat' (first | (k_extra "wb") | ((k_extra "lS"); (k_extra "wo")))))
      rename News _ _ _ _ => N
      rename Fr _ _ _ _ => F
      refine item_list (hs := by with_unfolding_all rfl) (⟨_, (N (r, { cls := .type "list", data := .seq vr nv }) (by repeat' first | exact List.Mem.head _ | exact hmr | exact List.mem_append_right _ hmr | refine' List.Mem.tail _ ?_)).1, rfl, _, rfl⟩ : Heap.IsList _ r vr) (by first | with_reducible assumption | decide | exact Nat.le_trans (by with_reducible assumption) (Nat.le_of_ble_eq_true rfl) | omega) (by first | with_reducible assumption | decide | exact Nat.le_trans (by with_reducible assumption) (Nat.le_of_ble_eq_true rfl) | omega) hv0 ?_
      (try dsimp only)
      ((try k_extra "rf"); (repeat' (first | (k_extra "wb") | ((k_extra "lS"); (k_extra "wo")))))
      rename News _ _ _ _ => N
      rename Fr _ _ _ _ => F
      refine item_list (hs := by with_unfolding_all rfl) (⟨_, (N (r, { cls := .type "list", data := .seq vr nv }) (by repeat' first | exact List.Mem.head _ | exact hmr | exact List.mem_append_right _ hmr | refine' List.Mem.tail _ ?_)).1, rfl, _, rfl⟩ : Heap.IsList _ r vr) (by first | with_reducible assumption | decide | exact Nat.le_trans (by with_reducible assumption) (Nat.le_of_ble_eq_true rfl) | omega) (by first | with_reducible assumption | decide | exact Nat.le_trans (by with_reducible assumption) (Nat.le_of_ble_eq_true rfl) | omega) hv1 ?_
      (try dsimp only)
      ((try k_extra "rf"); (repeat' (first | (k_extra "wb") | ((k_extra "lC"); (k_extra "wo")))))
      rename News _ _ _ _ => N
      rename Fr _ _ _ _ => F
      have g1 := N (Di, oE) (by k_mem)
      have g2 := N (Ld, LCg.lst [.str (folW ns k0) tD]) (by k_mem)
      have g3 := N (Sx, setO led) (by k_mem)
      have g4 := N (q, instObj 954 dx) (by k_mem)
      have g5 := N (dx, dictOf (igD w w1 w2 w3 Sx Ld Di) 3) (by k_mem)
      refine wpAny_mono (ct_names (h₀ := base) X T F.keep (by show ad + 40 < recursionLimit; first | exact room hroom rfl | exact room2 hroom rfl | exact room3 hroom rfl | omega) rfl ⟨g4.1, ⟨_, _, _, g5.1⟩, ⟨_, g3.1⟩, ⟨_, g2.1⟩, ⟨_, g1.1, hI2⟩, hds⟩ ⟨a1, a2, ⟨a3, a4, a5⟩, ⟨a6, a7, a8, a9⟩⟩ g4.2.2 g5.2.2 g3.2.2 g2.2.2 g1.2.2 (filW ns j0) (letK j0) t1 t2 (by have := (filW_ok ns hjm).sm; (first | exact (ch1 0 100 1 1000 this (Eq.refl true)) | omega)) (by have := (folW_ok ns k0).sm; (first | exact (ch1 0 100 1 1000 this (Eq.refl true)) | omega)) (fresh_none hfr hj0) (by have := hfr.1; (first | exact (ch4 0 1 1 0 0 0 0 11 0 100 this hi (Nat.le_of_eq hzf) hfl (Eq.refl true)) | omega)) ?_) (fun _ _ z => z) (fun _ _ (z : False) => z.elim)
      intro h4 tk4 t4 kp4 IG4 t5
      refine hideL ?_; intro gg10
      obtain ⟨oE4, hE4, hI4⟩ := IG4.hD
      k_unfold
      have hfr4 := fresh_succ (v := .int (if Txt.startswith (filW ns j0) ((folW ns k0) ++ Str.ofString "/") = true then 1 else 0) t4) hfr hnd hj0
      clear IG4
      have om := off.mem
      have oD := om _ (.head _)
      have aI : I2 ∉ [Di] := fun z => oD.1 (List.mem_singleton.mp z).symm
      have aC : C ∉ [Di] := fun z => oD.2.1 (List.mem_singleton.mp z).symm
      have aD : D ∉ [Di] := fun z => oD.2.2 (List.mem_singleton.mp z).symm
      have F4 : Fr base L h4 _ := fr_kept F kp4 (List.forall_mem_cons.mpr ⟨g1.2, List.forall_mem_nil _⟩)
      have N4 : News base L h4 ((I2, oI2) :: (C, oC) :: (D, LCg.lst (strValues lz)) :: (Di, oE4) :: _) := List.forall_mem_cons.mpr ⟨⟨kp4 _ _ aI (N _ (.head _)).1, (N _ (.head _)).2⟩, List.forall_mem_cons.mpr ⟨⟨kp4 _ _ aC (N _ (.tail _ (.head _))).1, (N _ (.tail _ (.head _))).2⟩, List.forall_mem_cons.mpr ⟨⟨kp4 _ _ aD (N _ (.tail _ (.tail _ (.head _)))).1, (N _ (.tail _ (.tail _ (.head _)))).2⟩, List.forall_mem_cons.mpr ⟨⟨hE4, g1.2⟩, news_apart kp4 (news_tail (news_tail (news_tail (news_tail N)))) ap2⟩⟩⟩⟩
      clear F N
      generalize hbb : Txt.startswith (filW ns j0) ((folW ns k0) ++ Str.ofString "/") = bb at hfr4 hI4 ⊢
      have fin4 : ∀ tz, (strValues lz ++ [Value.str (dg bb) tz]) = strValues (lz ++ [(dg bb, tz)]) := fun tz => sv_snoc _ _ _
      have fin5 : ∀ tz, (lz ++ [(dg bb, tz)]).map (fun p : Str × Tok => p.1) = (fs.take (i2 + 1)).map (fun j => dg (Txt.startswith (filW ns j) ((folW ns k0) ++ Str.ofString "/"))) := fun tz => map_take hlz hj0 (congrArg dg hbb.symm)
      have off4 : LCg.Off3 I2 C D ((Di, oE4) :: _) := LCg.Off3.of (List.forall_mem_cons.mpr ⟨oD, fun p hp => om p (.tail _ hp)⟩)
      cases bb with
      | true =>
        ((try k_extra "rf"); (repeat' (first | (k_extra "w1") | (k_end; (k_extra "lEx"); (k_extra "vn")) | (k_extra "rq") | (k_extra "wo"))))
        rename News _ _ _ _ => N
        rename Fr _ _ _ _ => F
        exact ⟨_, _, _, rfl, F, N, off4, .inr ⟨{ cls := .type "list", data := .seq its nf }, by repeat' first | exact List.Mem.head _ | exact hmc | exact List.mem_append_right _ hmc | refine' List.Mem.tail _ ?_, rfl, _, rfl⟩, lz ++ [(dg true, _)], oE4, _, fin4 _, fin5 _, rfl, hI4, hfr4⟩
      | false =>
        ((try k_extra "rf"); (repeat' (first | (k_extra "w1") | (k_end; (k_extra "lEx"); (k_extra "vn")) | (k_extra "rq") | (k_extra "wo"))))
        rename News _ _ _ _ => N
        rename Fr _ _ _ _ => F
        exact ⟨_, _, _, rfl, F, N, off4, .inr ⟨{ cls := .type "list", data := .seq its nf }, by repeat' first | exact List.Mem.head _ | exact hmc | exact List.mem_append_right _ hmc | refine' List.Mem.tail _ ?_, rfl, _, rfl⟩, lz ++ [(dg false, _)], oE4, _, fin4 _, fin5 _, rfl, hI4, hfr4⟩
    · rintro ys news hp11_2 D3 h3 tk3 F N off
      refine hideL ?_; intro gg11
      obtain ⟨lz, oE, kvs, rfl, hlz, rfl, hI2, hfr⟩ := hp11_2
      k_unfold
      rw [List.take_of_length_le (by (first | exact (ch1 0 0 0 0 (Nat.le_of_eq hzf.symm) (Eq.refl true)) | omega))] at hlz
      clear hI2 hfr
      ((try k_extra "rf"); (repeat' (first | (k_extra "wb") | ((k_extra "lB"); (k_extra "wo")))))
      rename News _ _ _ _ => N
      rename Fr _ _ _ _ => F
      refine SC.join (N.isList (.head _)) hlz (joinOk_of_weight (wt_of (B := 1) (m := 11) (fun y (hy : y ∈ fs.map (fun j => dg (Txt.startswith (filW ns j) ((folW ns k0) ++ Str.ofString "/")))) => by obtain ⟨j, _, rfl⟩ := List.mem_map.mp hy; exact dg_small _) (by rw [List.length_map]; exact hfl) rfl) (by decide)) ?_
      intro tj kj
      (try dsimp only)
      have eD3 : @Ne Nat D3 tl := fun z => off.2.2.2.2.2.2.2.2.2.2.2.1 z.symm
      ((try k_extra "rf"); (repeat' (first | (k_extra "wb") | ((k_extra "lB"); (k_extra "wo")))))
      rename News _ _ _ _ => N
      rename Fr _ _ _ _ => F
      rename (@LT.lt Nat _ D3 _ ∧ _) => bn
      rename Addr => ln
      refine append_led (pre := [_, _, _, _, _, _, _, _, _, _, _, _, _]) F N ?_ ?_ ?_ ?_
      · refine fmc ?_ (fmc (eD3) (fmc (gt2 edx a9) (fmc (eLd) (fmc (gt3 edx a1 a2) (fmc (gt2 edx a1) (fmc (Nat.ne_of_gt edx) (fmc (gt2 htI bw.1) (fmc (Nat.ne_of_gt htI) (fmc (cne hL 4 rfl) (fmc (cne hL 3 rfl) (fmc (cne hL 2 rfl) (fmc (cne hL 1 rfl) (List.forall_mem_nil _)))))))))))))
        (show @Ne Nat _ _; first | with_reducible assumption | exact Nat.ne_of_gt htI | exact Nat.ne_of_lt htI | exact Nat.ne_of_gt (by with_reducible assumption) | exact Nat.ne_of_lt (by with_reducible assumption) | exact Nat.ne_of_gt bn.1 | exact Nat.ne_of_gt bn.2.1 | exact Nat.ne_of_gt bn.2.2.1 | exact Nat.ne_of_gt bn.2.2.2.1 | exact Nat.ne_of_gt bn.2.2.2.2.1 | exact Nat.ne_of_gt bn.2.2.2.2.2.1 | exact Nat.ne_of_gt bn.2.2.2.2.2.2.1 | exact Nat.ne_of_gt bn.2.2.2.2.2.2.2.1 | exact Nat.ne_of_gt bn.2.2.2.2.2.2.2.2.1 | exact Nat.ne_of_gt bn.2.2.2.2.2.2.2.2.2.1 | exact Nat.ne_of_gt bn.2.2.2.2.2.2.2.2.2.2.1 | exact Nat.ne_of_gt bn.2.2.2.2.2.2.2.2.2.2.2.1 | exact Nat.ne_of_gt bn.2.2.2.2.2.2.2.2.2.2.2.2.1 | exact Nat.ne_of_gt bn.2.2.2.2.2.2.2.2.2.2.2.2.2.1 | omega)
      · exact either (fun p hp => (hX p hp).2) hap
      · rw [hvt]; (first | exact (lin4 4 [_, _, _, _] 0 (.a (.v 0) (.v 1)) (.v 2) 1 (.v 3) (.k 11) 1 (.v 0) (.k 50) 1 (.k 1000) (.v 2) 1 (.a (.v 1) (.k 1)) (.v 3) hkl hvz z1000 hik rfl (Eq.refl true)) | omega)
      intro h6 F6 N6
      dsimp only [List.cons_append, List.nil_append] at N6
      clear F N
      ((try k_extra "rf"); (repeat' (first | (k_extra "w1") | (k_end; (k_extra "lAn"); (k_extra "vn")) | (k_extra "rq") | (k_extra "wo"))))
      ((try dsimp only); rename News _ _ _ _ => N; rename Fr _ _ _ _ => F; (try dsimp only at F N))
      have sub : ∀ p ∈ Xs ++ W0, p ∈ (ln, PySem.W.listOf #[Value.str (folW ns k0) u0, Value.str (Txt.join (Str.ofString "") (fs.map fun j => dg (Txt.startswith (filW ns j) ((folW ns k0) ++ Str.ofString "/")))) tj] 0) :: Xs ++ W0 := fun p hp => by
        rw [List.cons_append]; exact .tail _ hp
      refine ⟨.inl rfl, _, _, _, (L + 1 + 1 + 1 + 1, o4) :: (L + 1 + 1 + 1, o3r) :: (L + 1 + 1, o2) :: (L + 1, o1) :: (tl, PySem.W.listOf (vt.push (.ref ln)) (nt + 1)) :: ((ln, PySem.W.listOf #[Value.str (folW ns k0) u0, Value.str (Txt.join (Str.ofString "") (fs.map fun j => dg (Txt.startswith (filW ns j) ((folW ns k0) ++ Str.ofString "/")))) tj] 0) :: Xs ++ W0), rfl, F, ?_, ?_, by trivial, _, _, o3r, vt.push (.ref ln), nt + 1, _ :: Xs, rfl, rfl, d3r, by rw [Array.size_push, hvt]; (first | exact (Nat.le_antisymm (lin0 2 [_, _] (.a (.a (.v 0) (.v 1)) (.k 1)) (.a (.v 0) (.a (.v 1) (.k 1))) rfl (Eq.refl true)) (lin0 2 [_, _] (.a (.v 0) (.a (.v 1) (.k 1))) (.a (.a (.v 0) (.v 1)) (.k 1)) rfl (Eq.refl true))) | omega), ?_, ?_, htI⟩
      · repeat' first | refine nw N (by k_mem) ?_ | exact fun p hp => N p (by repeat' first | exact hp | refine' List.Mem.tail _ ?_)
      · repeat' first | refine fmn hne (by k_mem) ?_ | refine fmc (hne (L + 1 + 1 + 1, o3') (by k_mem)) ?_ | refine fmc (Nat.ne_of_lt htI) ?_ | refine fmc (Nat.ne_of_gt bw.1) ?_ | refine fmc (by show @Ne Nat _ _; first | with_reducible assumption | exact Nat.ne_of_gt htI | exact Nat.ne_of_lt htI | exact Nat.ne_of_gt (by with_reducible assumption) | exact Nat.ne_of_lt (by with_reducible assumption) | exact Nat.ne_of_gt bn.1 | exact Nat.ne_of_gt bn.2.1 | exact Nat.ne_of_gt bn.2.2.1 | exact Nat.ne_of_gt bn.2.2.2.1 | exact Nat.ne_of_gt bn.2.2.2.2.1 | exact Nat.ne_of_gt bn.2.2.2.2.2.1 | exact Nat.ne_of_gt bn.2.2.2.2.2.2.1 | exact Nat.ne_of_gt bn.2.2.2.2.2.2.2.1 | exact Nat.ne_of_gt bn.2.2.2.2.2.2.2.2.1 | exact Nat.ne_of_gt bn.2.2.2.2.2.2.2.2.2.1 | exact Nat.ne_of_gt bn.2.2.2.2.2.2.2.2.2.2.1 | exact Nat.ne_of_gt bn.2.2.2.2.2.2.2.2.2.2.2.1 | exact Nat.ne_of_gt bn.2.2.2.2.2.2.2.2.2.2.2.2.1 | exact Nat.ne_of_gt bn.2.2.2.2.2.2.2.2.2.2.2.2.2.1 | omega) ?_ | exact fun p hp => hne p (by repeat' first | exact hp | refine' List.Mem.tail _ ?_)
      · exact bearsL_take hk0 (bears_l (.head _) (bearsL_cons bears_s (bearsL_cons bears_s bearsL_nil))) (BearsL.mono sub _ _ hb)
      · exact List.forall_mem_cons.mpr ⟨⟨⟨_, _, rfl⟩, by show @Ne Nat _ _; first | with_reducible assumption | exact Nat.ne_of_gt htI | exact Nat.ne_of_lt htI | exact Nat.ne_of_gt (by with_reducible assumption) | exact Nat.ne_of_lt (by with_reducible assumption) | exact Nat.ne_of_gt bn.1 | exact Nat.ne_of_gt bn.2.1 | exact Nat.ne_of_gt bn.2.2.1 | exact Nat.ne_of_gt bn.2.2.2.1 | exact Nat.ne_of_gt bn.2.2.2.2.1 | exact Nat.ne_of_gt bn.2.2.2.2.2.1 | exact Nat.ne_of_gt bn.2.2.2.2.2.2.1 | exact Nat.ne_of_gt bn.2.2.2.2.2.2.2.1 | exact Nat.ne_of_gt bn.2.2.2.2.2.2.2.2.1 | exact Nat.ne_of_gt bn.2.2.2.2.2.2.2.2.2.1 | exact Nat.ne_of_gt bn.2.2.2.2.2.2.2.2.2.2.1 | exact Nat.ne_of_gt bn.2.2.2.2.2.2.2.2.2.2.2.1 | exact Nat.ne_of_gt bn.2.2.2.2.2.2.2.2.2.2.2.2.1 | exact Nat.ne_of_gt bn.2.2.2.2.2.2.2.2.2.2.2.2.2.1 | omega⟩, hX⟩
  · rintro l B h tk m' n' F N hp12_8
    refine hideL ?_; intro gg12
    obtain ⟨rfl, wv, rv, o3', vt, nt, Xs, rfl, rfl, hd3, hvt, hb, hX, htI⟩ := hp12_8
    k_unfold
    replace F : Fr base L h _ := F
    replace N : News base L h _ := N
    rw [List.take_of_length_le (by (first | exact (ch1 0 0 0 0 (Nat.le_of_eq hz2.symm) (Eq.refl true)) | omega))] at hb
    refine ret _ _ wv rv vt nt Xs ⟨F, ⟨o1, o2, o3', o4, d1, d2, hd3, d4, N⟩, ?_⟩ (by rw [hvt, hz2]) hb ?_
    · refine isL_cons fun p hp => ?_
      rcases List.mem_append.mp hp with hp | hp
      · exact (hX p hp).1
      · exact hl p (.tail _ hp)
    · exact either (fun p hp => (hX p hp).2) hap
end TS12
section TC1
open PySem PySem.W PyProof.Rows PySem.Calls
set_option maxHeartbeats 4000000


theorem no_at (u0 u1 u2 u3 u4 u5 u6 u7 : Tok) : ∀ d < 8, ∃ u, (#[Value.str (Str.ofString "a") u0, Value.str (Str.ofString "b") u1, Value.str (Str.ofString "ab") u2, Value.str (Str.ofString " ") u3, Value.str (Str.ofString "a") u4, Value.str (Str.ofString "b") u5, Value.str (Str.ofString "'") u6, Value.str (Str.ofString "a") u7] : Array Value)[d]? = some (Value.str (nm d) u) := by
  intro d hd
  rcases d with _ | _ | _ | _ | _ | _ | _ | _ | d
  all_goals first | exact ⟨_, rfl⟩ | exact absurd hd (Nat.not_lt.mpr (Nat.le_add_left 8 d))
inductive WayI (s : Shared) (n : Nat) (t : Tok) (No : Array Value) (aw an : Addr) (k : Nat) (s' : Shared) : Prop where
  | mk (h : Heap) (tk : Nat) (r : Nat) (tr : Tok) (l : List (Str × Tok)) (nn : Nat) (e : s' = { s with heap := h, toks := tk })
    (F : Fr s.heap s.heap.objs.size h (fun y => if y = Str.ofString "rest" then some (Value.int (r : Nat) tr) else if y = Str.ofString "way" then some (Value.ref aw) else if y = Str.ofString "names" then some (Value.ref an) else List.lookup y [(Str.ofString "x", Value.int (↑n) t)].reverse))
    (N : News s.heap s.heap.objs.size h [(aw, W.listOf (strValues l).toArray nn), (an, W.listOf No 0)]) (hr : r < 512) (hl : l.map (·.1) ++ wayF r = wayF n) (ek : k = r)
theorem ct_way {w : World} {A : Around} {Q : Value → Shared → Prop} {s : Shared} {p : Program} {loose : List Str} {mean : ExcName → Option Value} {mg mb : Str → Option Value}
    (X : (Mine.top.heap_1_39 w.params).In s.heap) (T : Top p loose mean mg mb s.heap) (hroom : A.depth + 5 < recursionLimit) (hun : A.units + 50 < cLine)
    (n : Nat) (t : Tok) (hn : n < 512)
    (ret : ∀ h' tk a (l : List (Str × Tok)) nn, Stays s.heap h' → h'.get? a = some (PySem.W.listOf (strValues l).toArray nn) → l.map (·.1) = wayF n → s.heap.get? a = none → Q (.ref a) { s with heap := h', toks := tk }) :
    wpAny (model PySem.Challenge.rw_aa0007_01.row.prog w) A (call (.ref 972) [.int n t]) Q noE s := by
  revert X; k_fill; intro X
  k_dflt (refine' enterK (binds := [(Str.ofString "x", Value.int n t)]) ?k1 ?k2 ?k6 ?k7 ?k8 ?k9 ?kB ?_ ?c5 ?c2 ?c3 ?c4; ((case k1 => assumption); (case k2 => exact Top.nolimit (by assumption)); (case k6 => k_is); (case k7 => k_is); (case k8 => (first | exact (ch1 6 0 1 0 hroom (Eq.refl true)) | omega)); (case k9 => exact BindsTo.of_eq rfl); (case c5 => decide); (case kB => exact locs rfl); (case c2 => exact rfl); (case c3 => exact rfl); (case c4 => exact rfl)))
  intro h₁ F
  (try k_extra "en")
  have N : News s.heap s.heap.objs.size h₁ [] := News.nil
  (repeat' (first | ((fail_if_success (with_reducible show wpAny _ _ (exec (Stmt.While _ _ _ _) _) _ _ _)); (first | (k_unfold; (try dsimp only)) | with_reducible refine elast ?_ | with_reducible refine econs fun _ _ => ?_ | (with_reducible (first | refine seq_nx ‹_› ?_ | refine seq_ret ‹_› ?_ | refine seq_brk ‹_› ?_ | refine seq_cont ‹_› ?_); (try dsimp only)) | walk1 | (dsimp only; walk1))) | fail "no step"))
  rename News _ _ _ _ => N
  rename Fr _ _ _ _ => F
  have hNo : ∀ d < 8, ∃ u, (#[Value.str (Str.ofString "a") (s.toks + [(Str.ofString "x", Value.int (n : Int) t)].length), Value.str (Str.ofString "b") (s.toks + [(Str.ofString "x", Value.int (n : Int) t)].length + 1), Value.str (Str.ofString "ab") (s.toks + [(Str.ofString "x", Value.int (n : Int) t)].length + 1 + 1), Value.str (Str.ofString " ") (s.toks + [(Str.ofString "x", Value.int (n : Int) t)].length + 1 + 1 + 1), Value.str (Str.ofString "a") (s.toks + [(Str.ofString "x", Value.int (n : Int) t)].length + 1 + 1 + 1 + 1), Value.str (Str.ofString "b") (s.toks + [(Str.ofString "x", Value.int (n : Int) t)].length + 1 + 1 + 1 + 1 + 1), Value.str (Str.ofString "'") (s.toks + [(Str.ofString "x", Value.int (n : Int) t)].length + 1 + 1 + 1 + 1 + 1 + 1), Value.str (Str.ofString "a") (s.toks + [(Str.ofString "x", Value.int (n : Int) t)].length + 1 + 1 + 1 + 1 + 1 + 1 + 1)] : Array Value)[d]? = some (Value.str (nm d) u) := no_at _ _ _ _ _ _ _ _
  revert hNo N
  generalize (#[Value.str (Str.ofString "a") _, _, _, _, _, _, _, _] : Array Value) = No
  intro N hNo
  refine while_ (WayI s n t No _ _) ?_ n ⟨_, _, n, t, [], 0, rfl, F, N, hn, rfl, rfl⟩
  rintro k s' hp1_2
  refine hideL ?_; intro gg1
  obtain ⟨h, tk, r, tr, l, nn, rfl, F, N, hr, hl, rfl⟩ := hp1_2
  k_unfold
  (repeat' (first | ((fail_if_success (with_reducible show ite _ _ _)); (first | (k_unfold; (try dsimp only)) | with_reducible refine elast ?_ | with_reducible refine econs fun _ _ => ?_ | (with_reducible (first | refine seq_nx ‹_› ?_ | refine seq_ret ‹_› ?_ | refine seq_brk ‹_› ?_ | refine seq_cont ‹_› ?_); (try dsimp only)) | walk1 | (dsimp only; walk1))) | fail "no step"))
  by_cases hk : 0 < (k : Int)
  · refine ifT (decide_eq_true hk) ?_
    (repeat' (first | ((fail_if_success (with_reducible show wpAny _ _ (subscriptTail _ _ _ _) _ _ _)); (first | (k_unfold; (try dsimp only)) | with_reducible refine elast ?_ | with_reducible refine econs fun _ _ => ?_ | (with_reducible (first | refine seq_nx ‹_› ?_ | refine seq_ret ‹_› ?_ | refine seq_brk ‹_› ?_ | refine seq_cont ‹_› ?_); (try dsimp only)) | walk1 | (dsimp only; walk1))) | fail "no step"))
    obtain ⟨u, hu⟩ := hNo (k % 8) (by (lia))
    have hlen : (strValues l).toArray.size ≤ 3 := by
      have := congrArg List.length hl
      have := wayF_len hn
      simp [strValues] at *; (lia)
    refine item_list (hs := by with_unfolding_all rfl) (News.isList N (by k_mem)) (fmod_lo _ (by first | with_reducible assumption | decide | exact Nat.le_trans (by with_reducible assumption) (Nat.le_of_ble_eq_true rfl) | omega)) (Int.lt_trans (fmod_hi _ (by first | with_reducible assumption | decide | exact Nat.le_trans (by with_reducible assumption) (Nat.le_of_ble_eq_true rfl) | omega)) (by first | with_reducible assumption | decide | exact Nat.le_trans (by with_reducible assumption) (Nat.le_of_ble_eq_true rfl) | omega)) (v := Value.str (nm (k % 8)) u) ?_ ?_
    · rw [← hu]; congr 1; rw [Int.fmod_eq_emod_of_nonneg _ (by (lia))]; (lia)
    (try dsimp only)
    (repeat' (first | ((fail_if_success (with_reducible show Exists _)); (first | (k_unfold; (try dsimp only)) | with_reducible refine elast ?_ | with_reducible refine econs fun _ _ => ?_ | (with_reducible (first | refine seq_nx ‹_› ?_ | refine seq_ret ‹_› ?_ | refine seq_brk ‹_› ?_ | refine seq_cont ‹_› ?_); (try dsimp only)) | walk1 | (dsimp only; walk1))) | fail "no step"))
    rename News _ _ _ _ => N'
    rename Fr _ _ _ _ => F'
    (try dsimp only at F' N' ⊢)
    rw [same_name] at F'
    have hdv : (k : Int).fdiv 8 = ((k / 8 : Nat) : Int) := by rw [Int.fdiv_eq_ediv_of_nonneg _ (by omega)]; (lia)
    rw [hdv] at F'
    refine ⟨k / 8, by (lia), _, _, k / 8, _, l ++ [(nm (k % 8), u)], nn + 1, rfl, F', ?_, by (lia), ?_, rfl⟩
    · have e : (strValues (l ++ [(nm (k % 8), u)])).toArray = (strValues l).toArray.push (Value.str (nm (k % 8)) u) := by simp [strValues]
      rw [e]; exact N'
    · rw [← hl, wayF_pos (n := k) (by (lia))]; simp
  · refine ifF (fun z => hk (of_decide_eq_true z)) ?_
    have hk0 : k = 0 := by (lia)
    subst hk0
    rename News _ _ _ _ => N
    rename Fr _ _ _ _ => F
    (repeat' (first | ( (first | (k_unfold; (try dsimp only)) | with_reducible refine elast ?_ | with_reducible refine econs fun _ _ => ?_ | (with_reducible (first | refine seq_nx ‹_› ?_ | refine seq_ret ‹_› ?_ | refine seq_brk ‹_› ?_ | refine seq_cont ‹_› ?_); (try dsimp only)) | walk1 | (dsimp only; walk1))) | fail "no step"))
    (try dsimp only)
    refine ret _ _ _ l _ F.keep (N _ (.head _)).1 ?_ ?_
    · rw [← hl, wayF_zero, List.append_nil]
    · exact News.fresh N (by k_mem)
end TC1
section TE4
open PySem PySem.W PyProof.Rows PySem.Calls
set_option maxHeartbeats 8000000

theorem ct_abspath {w : World} {A : Around} {Q : Value → Shared → Prop} {s : Shared} {p : Program} {loose : List Str} {mean : ExcName → Option Value} {mg mb : Str → Option Value}
    (X : (Mine.top.heap_1_39 w.params).In s.heap) (T : Top p loose mean mg mb s.heap) (hroom : A.depth + 25 < recursionLimit) (hh : A.handled = none) (x : Str) (t : Tok) (hx : x.length < 1000) (hne : x.length ≠ 0)
    (hp1 : ¬ ((Txt.slice x none (some 1) != Str.ofString "/") = true)) (hp2 : (Txt.slice x (some 1) (some 2) != Str.ofString "/") = true) {cs : List Str} (hcs : Txt.split (Txt.slice x (some 1) none) (Str.ofString "/") = cs) (hlen : cs.length < 100) (hcl : ∀ c ∈ cs, c.length ≤ 1000) (hdd : ∀ i, cs[i]? = some (Str.ofString "..") → normS (cs.take i) = [Str.ofString "b"])
    (hsw : Txt.startswith x (Str.ofString "/") = true)
    (ret : ∀ h' tk t', Stays s.heap h' → Q (.str (Str.ofString "/" ++ Txt.join (Str.ofString "/") (normS cs)) t') { s with heap := h', toks := tk }) :
    wpAny (model PySem.Challenge.rw_aa0007_01.row.prog w) A (call (.ref 166) [.str x t]) Q noE s := by
  refine aro1 hh hroom ?_
  clear hh hroom
  intro ad af ag au hroom
  revert X; k_fill; intro X
  k_dflt (refine' enterK (binds := [(Str.ofString "path", Value.str x t)]) ?k1 ?k2 ?k6 ?k7 ?k8 ?k9 ?kB ?_ ?c5 ?c2 ?c3 ?c4; ((case k1 => assumption); (case k2 => exact Top.nolimit (by assumption)); (case k6 => k_is); (case k7 => k_is); (case k8 => (try dsimp only); (first | exact (ch1 21 0 1 0 hroom (Eq.refl true)) | exact (ch1 26 0 1 0 hroom (Eq.refl true)) | exact (ch1 16 0 1 0 hroom (Eq.refl true)) | omega)); (case k9 => exact BindsTo.of_eq rfl); (case c5 => decide); (case kB => exact locs rfl); (case c2 => exact rfl); (case c3 => exact rfl); (case c4 => exact rfl)))
  intro h₁ F
  (try k_extra "en")
  have N : News s.heap s.heap.objs.size h₁ [] := News.nil
  ((try k_extra "rf"); (repeat' (first | (k_extra "wb") | ((k_extra "lC"); (k_extra "wo")))))
  (rename News _ _ _ _ => N; rename Fr _ _ _ _ => F; refine ct_fspath (X.keeps F.keep) (T.keeps F.keep) (by show ad + 1 + 5 < recursionLimit; first | exact room hroom rfl | exact room2 hroom rfl | exact room3 hroom rfl | omega) _ _ ?_; intro h2 tk2 st2; have F2 := fr_stay F st2; have N2 := news_stay N st2; clear F N st2)
  ((try k_extra "rf"); (repeat' (first | (k_extra "wb") | ((k_extra "lC"); (k_extra "wo")))))
  all_goals (try (rename (Txt.startswith _ _ = false) => hf; rw [hsw] at hf; exact Bool.noConfusion hf))
  rename News _ _ _ _ => N
  rename Fr _ _ _ _ => F
  refine ct_normpath (X.keeps F.keep) (T.keeps F.keep) (by show ad + 1 + 20 < recursionLimit; first | exact room hroom rfl | exact room2 hroom rfl | exact room3 hroom rfl | omega) rfl x t hx hne hp1 hp2 hcs hlen hcl hdd ?_
  intro h3 tk3 t3 st3
  exact ret _ _ _ fun b o e => st3 b o (F.keep b o e)
end TE4
section TE5
open PySem PySem.W PyProof.Rows PySem.Calls
set_option maxHeartbeats 8000000

theorem try_ {prog : Program} {w : World} {A : Around} {s : Shared} {env : Env} {body orelse : List Stmt} {hd₀ : ExceptHandler} {hs : List ExceptHandler} {pos : Pos} {Q : Flow → Shared → Prop}
    (h : wpAny (model prog w) A (execs body env) (fun f s₁ => match f with | .next => wpAny (model prog w) A (execs orelse env) Q noE s₁ | f => Q f s₁) noE s) :
    wpAny (model prog w) A (exec (.Try body (hd₀ :: hs) orelse [] pos) env) Q noE s :=
  wpAny_Try_except (wpAny_mono h (fun _ _ x => x) (fun _ _ x => x.elim))

theorem np_len {x : Str} {cs : List Str} (h : PathOk x cs) : (Txt.join (Str.ofString "/") (normS cs)).length ≤ 200000 ∧ (Str.ofString "/" ++ Txt.join (Str.ofString "/") (normS cs)).length ≤ 200001 := by
  have hj : (Txt.join (Str.ofString "/") (normS cs)).length ≤ 200000 := join_cap (m := 100) len_slash (fun y hy => h.hcl y (normS_mem cs y hy)) (Nat.le_trans (normS_len cs) (Nat.le_of_lt h.hlen)) rfl
  refine ⟨hj, ?_⟩
  rw [show (Str.ofString "/" ++ Txt.join (Str.ofString "/") (normS cs)).length = (Str.ofString "/").length + (Txt.join (Str.ofString "/") (normS cs)).length from Array.size_append, len_slash, Nat.add_comm]
  exact Nat.succ_le_succ hj

theorem lstrip_J {prog : Program} {w : World} {A : Around} {E : Value → Shared → Prop} {s : Shared} {Q : Value → Shared → Prop} {x : Str} {cs : List Str} (hx : PathOk x cs) {t u : Tok} (h : ∀ t' k, Q (.str (Txt.join (Str.ofString "/") (normS cs)) t') { s with toks := k }) :
    wpAny (model prog w) A (call (.builtin "str.lstrip") [.str (Str.ofString "/" ++ Txt.join (Str.ofString "/") (normS cs)) t, .str (Str.ofString "/") u]) Q E s := by
  have z := (np_len hx).2
  have z2 : (200001 : Nat) ≤ sizeLine := by decide
  refine SCL.lstripChars (fun t' k _ => ?_) (by (first | exact (ch2 0 200001 200001 0 0 0 z z2 (Eq.refl true)) | omega))
  rw [hx.hst]
  exact h t' k

theorem sub_hi {m n : Nat} (h : m < 100) : (m : Int) - (n : Int) < 2 ^ 63 := Int.lt_of_le_of_lt (Int.sub_le_self _ (Int.natCast_nonneg n)) (Int.lt_trans (Int.ofNat_lt.mpr h) (by decide))
theorem sub_lo {m n : Nat} (h : n < 100) : -2 ^ 63 ≤ (m : Int) - (n : Int) := Int.le_trans (by decide : (-2 ^ 63 : Int) ≤ 0 - 100) (Int.sub_le_sub (Int.natCast_nonneg m) (Int.ofNat_le.mpr (Nat.le_of_lt h)))
theorem sub_cap {m n : Nat} (h : m < 100) : 1 * ((m : Int) - (n : Int)).toNat ≤ 256 := by rw [Int.toNat_sub, Nat.one_mul]; exact Nat.le_trans (Nat.sub_le m n) (Nat.le_trans (Nat.le_of_lt h) (by decide))
theorem sub_nat {m n k : Nat} (e : m = k) : ((m : Int) - (n : Int)).toNat = k - n := e ▸ Int.toNat_sub m n
theorem sum_cap {a b c l : Nat} (ha : a < 100) (hb : b < 100) (hc : 200 ≤ c) : a - l + (b - l) ≤ c := Nat.le_trans (Nat.add_le_add (Nat.le_trans (Nat.sub_le a l) (Nat.le_of_lt ha)) (Nat.le_trans (Nat.sub_le b l) (Nat.le_of_lt hb))) hc
theorem sum_cast {a b l : Nat} (ha : a < 100) (hb : b < 100) : ((a - l + (b - l) : Nat) : Int) < 2 ^ 63 := Int.lt_of_le_of_lt (Int.ofNat_le.mpr (sum_cap ha hb (Nat.le_refl 200))) (by decide)
theorem rep_sv {x : Int} {n : Nat} {a : Str} {t : Tok} (h : x.toNat = n) : (List.replicate x.toNat [Value.str a t]).flatten = strValues (List.replicate n (a, t)) := by
  subst h; simp [strValues]
theorem sv_append (a b : List (Str × Tok)) : strValues (a ++ b) = strValues a ++ strValues b := by simp [strValues]
theorem ln_of {l : List (Str × Tok)} {es : List Str} (h : l.map (·.1) = es) (hz : es.length < 100) : l.length < 100 := by rw [← List.length_map (f := fun p : Str × Tok => p.1), h]; exact hz
theorem sz_of {l : List (Str × Tok)} {es : List Str} (h : l.map (·.1) = es) (hz : es.length < 100) : (strValues l).toArray.size ≤ 100 := by rw [sv_size]; exact Nat.le_of_lt (ln_of h hz)
noncomputable abbrev rlB (x y : Str) (t u : Tok) (jc jd : Str) (tm tj : Tok) (ta tb tc : Tok) : Str → Option Value := fun z =>
  if z = Str.ofString "path_tail" then some (.str jc tm) else if z = Str.ofString "start_tail" then some (.str jd tj)
  else if z = Str.ofString "start" then some (.str y u) else if z = Str.ofString "pardir" then some (.str (Str.ofString "..") ta) else if z = Str.ofString "sep" then some (.str (Str.ofString "/") tb) else if z = Str.ofString "curdir" then some (.str (Str.ofString ".") tc)
  else if z = Str.ofString "path" then some (.str x t) else List.lookup z [(Str.ofString "path", Value.str x t), (Str.ofString "start", Value.str y u)].reverse


theorem mid {M : Model} {A : Around} {E : Value → Shared → Prop} {s : Shared} {env : Env} {st : Stmt} {rest : List Stmt} {Q : Flow → Shared → Prop} (I : Shared → Prop)
    (h1 : wpAny M A (exec st env) (fun f s' => f = .next ∧ I s') E s) (h2 : ∀ s', I s' → wpAny M A (execs rest env) Q E s') : wpAny M A (execs (st :: rest) env) Q E s :=
  wpAny_execs_cons (wpAny_mono h1 (fun f s' hi => by obtain ⟨e, hi⟩ := hi; subst e; exact h2 s' hi) (fun _ _ x => x))

theorem ct_relpath {w : World} {A : Around} {Q : Value → Shared → Prop} {s : Shared} {p : Program} {loose : List Str} {mean : ExcName → Option Value} {mg mb : Str → Option Value}
    (X : (Mine.top.heap_1_39 w.params).In s.heap) (T : Top p loose mean mg mb s.heap) (hroom : A.depth + 40 < recursionLimit) (hh : A.handled = none) (hun : A.units + 60 < cLine) (x y : Str) (t u : Tok) {cs ds : List Str} (hx : PathOk x cs) (hy : PathOk y ds)
    (ret : ∀ h' tk t', Stays s.heap h' → Q (.str (relF (normS ds) (normS cs)) t') { s with heap := h', toks := tk }) :
    wpAny (model PySem.Challenge.rw_aa0007_01.row.prog w) A (call (.ref 174) [.str x t, .str y u]) Q noE s := by
  refine aro hh hroom hun ?_
  clear hh hroom hun
  intro ad af ag au hroom hun
  revert X; k_fill; intro X
  k_dflt (refine' enterK (binds := [(Str.ofString "path", Value.str x t), (Str.ofString "start", Value.str y u)]) ?k1 ?k2 ?k6 ?k7 ?k8 ?k9 ?kB ?_ ?c5 ?c2 ?c3 ?c4; ((case k1 => assumption); (case k2 => exact Top.nolimit (by assumption)); (case k6 => k_is); (case k7 => k_is); (case k8 => (try dsimp only); (first | exact (ch1 41 0 1 0 hroom (Eq.refl true)) | omega)); (case k9 => first | exact BindsTo.of_eq rfl | exact binds_K (by assumption) rfl (by k_is) rfl rfl rfl); (case c5 => decide); (case kB => exact locs rfl); (case c2 => exact rfl); (case c3 => exact rfl); (case c4 => exact rfl)))
  intro h₁ F
  (try k_extra "en")
  have N : News s.heap s.heap.objs.size h₁ [] := News.nil
  have zx := hx.hx
  have zy := hy.hx
  have hn1 : ¬ ((!((x.length : Int) != 0)) = true) := by have := hx.hne; simp; (first | exact (Nat.ne_of_gt (lin1 1 [_] 0 (.a (.k 0) (.k 1)) (.v 0) 1 (.k 1) (.v 0) (Nat.pos_of_ne_zero this) rfl (Eq.refl true))) | omega)
  ((try k_extra "rf"); (repeat' (first | (k_extra "wb") | ((k_extra "lC"); (k_extra "wl")))))
  (rename News _ _ _ _ => N; rename Fr _ _ _ _ => F; refine ct_fspath (X.keeps F.keep) (T.keeps F.keep) (by show ad + 1 + 5 < recursionLimit; first | exact room hroom rfl | exact room2 hroom rfl | exact room3 hroom rfl | omega) _ _ ?_; intro h2 tk2 st2; have F2 := fr_stay F st2; have N2 := news_stay N st2; clear F N st2)
  ((try k_extra "rf"); (repeat' (first | (k_extra "wb") | ((k_extra "lC"); (k_extra "wl")))))
  (rename News _ _ _ _ => N; rename Fr _ _ _ _ => F; refine ct_fspath (X.keeps F.keep) (T.keeps F.keep) (by show ad + 1 + 5 < recursionLimit; first | exact room hroom rfl | exact room2 hroom rfl | exact room3 hroom rfl | omega) _ _ ?_; intro h2 tk2 st2; have F2 := fr_stay F st2; have N2 := news_stay N st2; clear F N st2)
  ((try k_extra "rf"); (repeat' (first | (k_extra "v0") | (k_extra "wn") | ((k_extra "ge"); (k_extra "ve")) | ((k_extra "gx"); (k_extra "lT"); (k_extra "vx")) | (k_extra "rq") | ((k_extra "lT"); (k_extra "wl")))))
  refine try_ ?_
  ((try k_extra "rf"); (repeat' (first | (k_extra "wb") | ((k_extra "lC"); (k_extra "wl")))))
  rename News _ _ _ _ => N
  rename Fr _ _ _ _ => F
  refine ct_abspath (X.keeps F.keep) (T.keeps F.keep) (by show ad + 1 + 25 < recursionLimit; first | exact room hroom rfl | exact room2 hroom rfl | exact room3 hroom rfl | omega) rfl y u zy hy.hne hy.hp1 hy.hp2 hy.hcs hy.hlen hy.hcl hy.hdd hy.hsw ?_
  intro h3 tk3 t3 st3
  have F3 := fr_stay F st3
  have N3 := news_stay N st3
  clear F N
  have zd := (np_len hy).1
  ((try k_extra "rf"); (repeat' (first | (k_extra "wb") | ((k_extra "lB"); (k_extra "wl")))))
  refine lstrip_J hy ?_
  intro tj kj
  (try dsimp only)
  ((try k_extra "rf"); (repeat' (first | (k_extra "wb") | ((k_extra "lC"); (k_extra "wl")))))
  rename News _ _ _ _ => N
  rename Fr _ _ _ _ => F
  refine ct_abspath (X.keeps F.keep) (T.keeps F.keep) (by show ad + 1 + 25 < recursionLimit; first | exact room hroom rfl | exact room2 hroom rfl | exact room3 hroom rfl | omega) rfl x t zx hx.hne hx.hp1 hx.hp2 hx.hcs hx.hlen hx.hcl hx.hdd hx.hsw ?_
  intro h4 tk4 t4 st4
  have F4 := fr_stay F st4
  have N4 := news_stay N st4
  clear F N
  have ze := (np_len hx).1
  ((try k_extra "rf"); (repeat' (first | (k_extra "wb") | ((k_extra "lB"); (k_extra "wl")))))
  refine lstrip_J hx ?_
  intro tm km
  (try dsimp only)
  ((try k_extra "rf"); (repeat' (first | (k_extra "v0") | (k_extra "wn") | ((k_extra "ge"); (k_extra "ve")) | ((k_extra "gx"); (k_extra "lIf"); (k_extra "vx")) | (k_extra "rq") | ((k_extra "lIf"); (k_extra "wl")))))
  rename News _ _ _ _ => N
  rename Fr _ _ _ _ => F
  rename Heap => hA
  refine hideL ?_; intro gg1
  obtain ⟨ta, tb, tc, F0, N0⟩ : ∃ ta tb tc, Fr s.heap s.heap.objs.size hA (rlB x y t u (Txt.join (Str.ofString "/") (normS cs)) (Txt.join (Str.ofString "/") (normS ds)) tm tj ta tb tc) ∧ News s.heap s.heap.objs.size hA [] := ⟨_, _, _, F, N⟩
  k_unfold
  clear F N
  refine mid (fun s' => ∃ h k Ds la na, s' = { s with heap := h, toks := k } ∧ la.map (·.1) = normS ds ∧ Fr s.heap s.heap.objs.size h (fun z => if z = Str.ofString "start_list" then some (.ref Ds) else rlB x y t u (Txt.join (Str.ofString "/") (normS cs)) (Txt.join (Str.ofString "/") (normS ds)) tm tj ta tb tc z) ∧ News s.heap s.heap.objs.size h [(Ds, lst la na)]) ?_ ?_
  · by_cases hd0 : normS ds = []
    · have hjd : (Txt.join (Str.ofString "/") (normS ds)).length = 0 := hy.hz.mpr hd0
      have q1 : ¬ ((((Txt.join (Str.ofString "/") (normS ds)).length : Int) != 0) = true) := by simp [hjd]
      ((try k_extra "rf"); (repeat' (first | (k_extra "w1") | (k_end; (k_extra "lAn"); (k_extra "vn")) | (k_extra "rq") | (k_extra "wl"))))
      (try dsimp only)
      rename News _ _ _ _ => N
      rename Fr _ _ _ _ => F
      exact ⟨by trivial, _, _, _, [], 0, rfl, hd0.symm, F, N⟩
    · have hjd : ¬ ((Txt.join (Str.ofString "/") (normS ds)).length = 0) := fun z => hd0 (hy.hz.mp z)
      have q1 : (((Txt.join (Str.ofString "/") (normS ds)).length : Int) != 0) = true := by simp; (first | exact (Nat.ne_of_gt (lin1 1 [_] 0 (.a (.k 0) (.k 1)) (.v 0) 1 (.k 1) (.v 0) (Nat.pos_of_ne_zero hjd) rfl (Eq.refl true))) | omega)
      ((try k_extra "rf"); (repeat' (first | (k_extra "w1") | (k_end; (k_extra "lAn"); (k_extra "vn")) | (k_extra "rq") | (k_extra "wl"))))
      (try dsimp only)
      rename News _ _ _ _ => N
      rename Fr _ _ _ _ => F
      rename (List.map _ _ = Txt.split (Txt.join _ (normS ds)) _) => e1
      exact ⟨by trivial, _, _, _, _, 0, rfl, e1.trans (hy.hsp hd0), F, N⟩
  rintro _ hp2_1
  refine hideL ?_; intro gg2
  obtain ⟨h, k, Ds, la, na, rfl, w1, F, N⟩ := hp2_1
  k_unfold
  refine mid (fun s' => ∃ h k Dc lb nb, s' = { s with heap := h, toks := k } ∧ lb.map (·.1) = normS cs ∧ @LT.lt Nat _ Ds Dc ∧ Fr s.heap s.heap.objs.size h (fun z => if z = Str.ofString "path_list" then some (.ref Dc) else if z = Str.ofString "start_list" then some (.ref Ds) else rlB x y t u (Txt.join (Str.ofString "/") (normS cs)) (Txt.join (Str.ofString "/") (normS ds)) tm tj ta tb tc z) ∧ News s.heap s.heap.objs.size h [(Dc, lst lb nb), (Ds, lst la na)]) ?_ ?_
  · by_cases hc0 : normS cs = []
    · have hjc : (Txt.join (Str.ofString "/") (normS cs)).length = 0 := hx.hz.mpr hc0
      have q2 : ¬ ((((Txt.join (Str.ofString "/") (normS cs)).length : Int) != 0) = true) := by simp [hjc]
      ((try k_extra "rf"); (repeat' (first | (k_extra "w1") | (k_end; (k_extra "lAn"); (k_extra "vn")) | (k_extra "rq") | (k_extra "wl"))))
      (try dsimp only)
      rename News _ _ _ _ => N
      rename Fr _ _ _ _ => F
      exact ⟨by trivial, _, _, _, [], 0, rfl, hc0.symm, by (first | omega | (rename (@LT.lt Nat _ _ _ ∧ True) => l1; exact l1.1) | (rename (@LT.lt Nat _ _ _) => l1; exact l1)), F, N⟩
    · have hjc : ¬ ((Txt.join (Str.ofString "/") (normS cs)).length = 0) := fun z => hc0 (hx.hz.mp z)
      have q2 : (((Txt.join (Str.ofString "/") (normS cs)).length : Int) != 0) = true := by simp; (first | exact (Nat.ne_of_gt (lin1 1 [_] 0 (.a (.k 0) (.k 1)) (.v 0) 1 (.k 1) (.v 0) (Nat.pos_of_ne_zero hjc) rfl (Eq.refl true))) | omega)
      have zN : @LT.lt Nat _ Ds h.objs.size := Heap.lt_size (N _ (.head _)).1
      ((try k_extra "rf"); (repeat' (first | (k_extra "w1") | (k_end; (k_extra "lAn"); (k_extra "vn")) | (k_extra "rq") | (k_extra "wl"))))
      (try dsimp only)
      rename News _ _ _ _ => N
      rename Fr _ _ _ _ => F
      rename (List.map _ _ = Txt.split (Txt.join _ (normS cs)) _) => e2
      exact ⟨by trivial, _, _, _, _, 0, rfl, e2.trans (hx.hsp hc0), by (first | (first | exact (ch1 1 0 1 0 zN (Eq.refl true)) | omega) | (rename (@LT.lt Nat _ _ _ ∧ True) => l1; exact l1.1) | (rename (@LT.lt Nat _ _ _) => l1; exact l1)), F, N⟩
  clear F N
  rintro _ hp3_1
  refine hideL ?_; intro gg3
  obtain ⟨h, k, Dc, lb, nb, rfl, w2, lDs, F, N⟩ := hp3_1
  k_unfold
  have z0 : ([] : List (Str × Tok)).length = 0 := rfl
  ((try k_extra "rf"); (repeat' (first | (k_extra "wb") | ((k_extra "lC"); (k_extra "wl")))))
  rename News _ _ _ _ => N
  rename Fr _ _ _ _ => F
  have vds : (normS ds).length < 100 := Nat.lt_of_le_of_lt (normS_len ds) hy.hlen
  have vcs : (normS cs).length < 100 := Nat.lt_of_le_of_lt (normS_len cs) hx.hlen
  have zsd := sz_of w1 vds
  have zsc := sz_of w2 vcs
  refine ct_cprefix (X.keeps F.keep) (T.keeps F.keep) (by show ad + 1 + 20 < recursionLimit; first | exact room hroom rfl | exact room2 hroom rfl | exact room3 hroom rfl | omega) rfl (by show au + 3 + 50 < cLine; first | exact room hun rfl | exact room2 hun rfl | exact room3 hun rfl | omega) (N _ (.head _)).1 (N _ (.tail _ (.tail _ (.head _)))).1 (N _ (.tail _ (.head _))).1 (ln_of w1 vds) (ln_of w2 vcs) ?_
  intro h5 tk5 D l nn st5 hD hl
  have F5 := fr_stay F st5
  have N5 := news_stay N st5
  clear F N
  replace hl := hl.trans (by rw [w1, w2] : cpre (la.map (·.1)) (lb.map (·.1)) = cpre (normS ds) (normS cs))
  have hll : l.length = (cpre (normS ds) (normS cs)).length := (by have := congrArg List.length hl; rwa [List.length_map] at this)
  have zl : l.length ≤ (normS ds).length := (by have h1 := congrArg List.length hl; have h2 := cpre_len (normS ds) (normS cs); rw [List.length_map] at h1; (first | exact (ch2 0 0 0 0 0 0 (Nat.le_of_eq hll) h2 (Eq.refl true)) | omega))
  have zl2 : l.length ≤ (normS cs).length := (by have h1 := congrArg List.length hl; have h2 := cpre_len (normS cs) (normS ds); rw [cpre_comm] at h2; rw [List.length_map] at h1; (first | exact (ch2 0 0 0 0 0 0 (Nat.le_of_eq hll) h2 (Eq.refl true)) | omega))
  (try dsimp only)
  ((try k_extra "rf"); (repeat' (first | (k_extra "wb") | ((k_extra "lB"); (k_extra "wl")))))
  refine call_len_list (⟨_, hD, rfl, _, rfl⟩ : h5.IsList D (strValues l).toArray) (by rw [sv_size]; (lia)) ?_
  rw [sv_size]
  (try dsimp only)
  ((try k_extra "rf"); (repeat' (first | (k_extra "wb") | ((k_extra "lMu"); (k_extra "wl")))))
  rename News _ _ _ _ => N
  rename Fr _ _ _ _ => F
  have zA : (strValues la).toArray.size = (normS ds).length := (sv_size la).trans (by rw [← w1, List.length_map])
  have zA' : (strValues la).toArray.size < 100 := by rw [zA]; exact vds
  have zB : lb.length < 100 := ln_of w2 vcs
  have zlb : l.length ≤ lb.length := by rw [show lb.length = (normS cs).length from by rw [← w2, List.length_map]]; exact zl2
  refine KMa.mul (vs := [_]) (ws := strValues (List.replicate ((normS ds).length - l.length) (Str.ofString "..", _))) F N (N.isList (.head _)) (by first | exact sub_hi zA' | exact sub_lo (Nat.lt_of_le_of_lt zl vds)) (by first | exact sub_hi zA' | exact sub_lo (Nat.lt_of_le_of_lt zl vds)) (by simp only [List.length_singleton]; exact sub_cap zA') (rep_sv (sub_nat zA)) ?_
  intro Dr h6 F6 N6 l6
  clear F N
  (try dsimp only)
  ((try k_extra "rf"); (repeat' (first | (k_extra "wb") | ((k_extra "lAd"); (k_extra "wl")))))
  rename News _ _ _ _ => N
  rename Fr _ _ _ _ => F
  have hN1 := N.isList (.head _)
  have hN2 := N.isList (.tail _ (.head _))
  refine add_lists (vs := strValues _) (ws := strValues _) F N hN2 (by rw [slicePick_from _ _ (by rw [sv_size]; exact zlb), show ∀ (l : List (Str × Tok)) (k : Nat), ((strValues l).toArray.toList.drop k) = strValues (l.drop k) from fun l k => by simp [strValues]] at hN1; exact hN1) ?_ (by simp only [strValues, List.length_map, List.length_replicate, List.length_drop]; first | exact sum_cap vds zB (by decide) | exact sum_cast vds zB | omega)
  intro h7 F7 N7
  clear F N hN1 hN2
  (try dsimp only)
  ((try k_extra "rf"); (repeat' (first | (k_extra "wb") | ((k_extra "lTr"); (k_extra "wl")))))
  rename News _ _ _ _ => N
  rename Fr _ _ _ _ => F
  have hN := N.isList (.head _)
  rw [← sv_append] at hN
  refine wpAny_truthy_list hN (by rw [sv_size, List.length_append, List.length_replicate, List.length_drop]; first | exact sum_cap vds zB (by decide) | exact sum_cast vds zB | omega) ?_
  generalize hR : List.replicate ((normS ds).length - l.length) (Str.ofString "..", _) ++ List.drop l.length _ = rel at hN ⊢
  have hrm : rel.map (·.1) = List.replicate ((normS ds).length - (cpre (normS ds) (normS cs)).length) (Str.ofString "..") ++ (normS cs).drop (cpre (normS ds) (normS cs)).length := by
    rw [← hR, List.map_append, List.map_replicate, List.map_drop, w2, hll]
  have hrl : ∀ y ∈ rel.map (·.1), y.length ≤ 1000 := by
    rw [hrm]
    intro y hy'
    rcases List.mem_append.mp hy' with h | h
    · rw [List.eq_of_mem_replicate h]; decide +kernel
    · exact hx.hcl y (normS_mem cs y (List.mem_of_mem_drop h))
  have hrz : rel.length ≤ 200 := by rw [← hR, List.length_append, List.length_replicate, List.length_drop]; exact sum_cap vds zB (Nat.le_refl _)
  by_cases hemp : rel = []
  · have q3 : (!(!(strValues rel).toArray.isEmpty)) = true := by rw [hemp]; rfl
    have er : relF (normS ds) (normS cs) = Str.ofString "." := by unfold relF; rw [← hrm, hemp]; rfl
    refine ifT q3 ?_
    (try dsimp only)
    ((try k_extra "rf"); (repeat' (first | (k_extra "wb") | ((k_extra "lQ"); (k_extra "wl")))))
    (try dsimp only)
    rename News _ _ _ _ => N
    rename Fr _ _ _ _ => F
    exact val_eq (Q := Q) (congrArg (fun z => Value.str z _) er) (ret _ _ _ F.keep)
  · have q3 : ¬ ((!(!(strValues rel).toArray.isEmpty)) = true) := by
      cases rel with
      | nil => exact absurd rfl hemp
      | cons a r => simp [strValues]
    have er : relF (normS ds) (normS cs) = Txt.join (Str.ofString "/") (rel.map (·.1)) := by unfold relF; rw [← hrm, if_neg (fun z => hemp (List.map_eq_nil_iff.mp z))]
    refine ifF q3 ?_
    (try dsimp only)
    ((try k_extra "rf"); (repeat' (first | (k_extra "wb") | ((k_extra "lB"); (k_extra "lQ"); (k_extra "wl")))))
    rename News _ _ _ _ => N
    rename Fr _ _ _ _ => F
    refine SC.join hN rfl (joinOk_of_weight (wt_of (m := 200) hrl (by rw [List.length_map]; exact hrz) rfl) (by decide)) ?_
    intro tj2 kj2
    (try dsimp only)
    ((try k_extra "rf"); (repeat' (first | (k_extra "wb") | ((k_extra "lQ"); (k_extra "wl")))))
    (try dsimp only)
    rename News _ _ _ _ => N
    rename Fr _ _ _ _ => F
    exact val_eq (Q := Q) (congrArg (fun z => Value.str z _) er) (ret _ _ _ F.keep)
end TE5
section TS5
open PySem PySem.W PyProof.Rows PySem.Calls
set_option maxHeartbeats 8000000

noncomputable def folT (ns : List Int) (k : Nat) : PT := .l [.l ((wayK ns k).map .s), .s (folP ns k)]
noncomputable def filT (ns : List Int) (k : Nat) : PT := .l [.l ((fwK ns k).map .s), .s (filP ns k), .s (letK k)]
theorem perm_fi {base h : Heap} {L : Addr} {x1 x2 x3 x4 c4 c3 c2 c1 f1 f2 : Addr × Obj} {Xs W0 : List (Addr × Obj)} (N : News base L h ([x1, x2, x3, x4, c4, c3, c2, c1] ++ f1 :: f2 :: (Xs ++ W0))) :
    News base L h (x4 :: c4 :: c3 :: c2 :: c1 :: f1 :: f2 :: ((x1 :: x2 :: Xs) ++ W0)) := by
  dsimp only [List.cons_append, List.nil_append] at N ⊢
  repeat' first | refine nw N (by k_mem) ?_ | exact fun p hp => N p (by repeat' first | exact hp | refine' List.Mem.tail _ ?_)
inductive P5 (L fo fi : Addr) (o1 o2 o3 o4 : Obj) (nm : Option Value → Option Value → Option Value → Option Value → LN) (ns : List Int) (W0 : List (Addr × Obj)) (I : Addr) (i : Nat) (m : Str → Option Value) (nw : List (Addr × Obj)) : Prop where
  | mk (kk wy bg lt : Option Value) (vo : Array Value) (no : Nat) (vi : Array Value) (ni : Nat) (X : List (Addr × Obj)) (em : m = lm (nm kk wy bg lt))
    (en : nw = (L + 1 + 1 + 1 + 1, o4) :: (L + 1 + 1 + 1, o3) :: (L + 1 + 1, o2) :: (L + 1, o1) :: (fi, PySem.W.listOf vi ni) :: (fo, PySem.W.listOf vo no) :: (X ++ W0)) (bo : BearsL X ((folL ns i).map (folT ns)) vo.toList) (bi : BearsL X ((filL ns i).map (filT ns)) vi.toList)
    (bX : ∀ p ∈ X, IsL p.2 ∧ @Ne Nat p.1 fi ∧ @Ne Nat p.1 fo) (bI : @LT.lt Nat _ fi I)
inductive M5 (s : Shared) (base : Heap) (L : Addr) (nm : Tok → LN) (led : List (Addr × Obj)) (s' : Shared) : Prop where
  | mk (h : Heap) (k : Nat) (tb : Tok) (e : s' = { s with heap := h, toks := k }) (F : Fr base L h (lm (nm tb))) (N : News base L h led)
theorem law_s5 {w : World} {A : Around} {s : Shared} {p : Program} {loose : List Str} {mean : ExcName → Option Value} {mg mb : Str → Option Value} {base h : Heap} {tk : Nat} {L fa : Addr} {cd : Value}
    (X : (Mine.top.heap_1_39 w.params).In base) (T : Top p loose mean mg mb base) (hroom : A.depth + 100 < recursionLimit) (hh : A.handled = none) (hun : A.units + 100 < cLine)
    {n : LN} {cp ch cr cf : Option Value} {W : List (Addr × Obj)} {b fo fi : Addr} {ws : List Value} {ns : List Int} {W0 : List (Addr × Obj)} (hnum : n.numbers = some (.ref b)) (hfo : n.folders = some (.ref fo)) (hfi : n.files = some (.ref fi)) (hI : IntsAre ws (numsI ns))
    (hW : W = (fi, PySem.W.listOf #[] 0) :: (fo, PySem.W.listOf #[] 0) :: W0) (hb : (b, PySem.W.listOf ws.toArray 0) ∈ W0) (b1 : ∀ p ∈ W0, @LT.lt Nat _ p.1 fo) (b2 : @LT.lt Nat _ fo fi) (b3 : @LT.lt Nat _ (L + 4) fo)
    (St : LSt base L h n cp ch cr cf W)
    {Q : Flow → Shared → Prop} (ret : ∀ h' tk' kk wy bg lt W', LSt base L h' { n with k := kk, way := wy, begn := bg, letter := lt } cp ch cr cf (W' ++ W0) → Bears (W' ++ W0) (.l ((folL ns (numsI ns).length).map (folT ns))) (.ref fo) → Bears (W' ++ W0) (.l ((filL ns (numsI ns).length).map (filT ns))) (.ref fi) → Q .next { s with heap := h', toks := tk' }) :
    wpAny (model PySem.Challenge.rw_aa0007_01.row.prog w) A (exec (lawSt 5) (lawEnv L fa cd)) Q noE { s with heap := h, toks := tk } := by
  (refine aro hh hroom hun ?_; clear hh hroom hun; intro ad af ag au hroom hun; obtain ⟨F, ⟨o1, o2, o3, o4, d1, d2, d3, d4, N⟩, hl⟩ := St)
  refine hideL ?_; intro gg1
  obtain ⟨script, numbers, folders, files, k, way, begn, letter, near, seen, word, close, plain, wide, told, due⟩ := n
  k_unfold
  (try dsimp only at ret)
  obtain rfl : numbers = _ := hnum
  obtain rfl : folders = _ := hfo
  obtain rfl : files = _ := hfi
  subst hW
  (refine' st_as ?e1 ?e2 ?_; (case e1 => (conv => lhs; whnf)); (case e2 => (conv => lhs; unfold lawEnv; arg 2; whnf)); intro env' A' gg dd oo; revert X; k_fill; intro X)
  have zn := numsI_len ns
  have zws : ws.toArray.size = (numsI ns).length := by rw [List.size_toArray]; exact hI.length
  refine for_range3 (hs := by intro _; rfl) (n := (numsI ns).length) (P := P5 L fo fi o1 o2 o3 o4 (fun kk wy bg lt => { script := script, numbers := some (.ref b), folders := some (.ref fo), files := some (.ref fi), k := kk, way := wy, begn := bg, letter := lt, near := near, seen := seen, word := word, close := close, plain := plain, wide := wide, told := told, due := due }) ns W0)
    (h₀ := base) rfl (by (first | exact (ch1 0 11 0 1000 zn.2 (Eq.refl true)) | omega)) ?_ ?_ ?_
  · ((try k_extra "rf"); (repeat' (first | (k_extra "w1") | (k_end; (k_extra "lEx"); (k_extra "vn")) | (k_extra "rq") | ((k_extra "lB"); (k_extra "wo")))))
    rename News _ _ _ _ => N
    rename Fr _ _ _ _ => F
    (try k_fold)
    refine call_len_list (⟨_, (N _ (.tail _ (.tail _ (.tail _ (.tail _ (.tail _ (.tail _ hb))))))).1, rfl, _, rfl⟩ : Heap.IsList _ b ws.toArray) (by (lia)) ?_
    rw [zws]
    (try dsimp only)
    ((try k_extra "rf"); (repeat' (first | (k_extra "w1") | (k_end; (k_extra "lEx"); (k_extra "vn")) | (k_extra "rq") | (k_extra "wo"))))
    rename News _ _ _ _ => N
    rename Fr _ _ _ _ => F
    rename IsRange _ _ _ _ _ _ _ _ => hR
    exact ⟨_, _, _, _, _, _, _, _, rfl, rfl, hR, F, N, k, way, begn, letter, #[], 0, #[], 0, [], rfl, rfl, bearsL_nil, bearsL_nil, List.forall_mem_nil _, Heap.lt_size (N _ (.tail _ (.tail _ (.tail _ (.tail _ (.head _)))))).1⟩
  · rintro i t m₁ n₁ h tk I oI hi hp2_9 hne F N
    refine hideL ?_; intro gg2
    obtain ⟨kk, wy, bg, lt, vo, no, vi, ni, Xs, rfl, rfl, bo, bi, bX, bI⟩ := hp2_9
    k_unfold
    have b4 : @LT.lt Nat _ (L + 4) fi := Nat.lt_trans b3 b2
    replace F : Fr base L h _ := F
    replace N : News base L h _ := N
    obtain ⟨ti, hti⟩ := hI.get i _ (numN_get hi)
    have zN := numN_lt ns i
    have hti' : ws.toArray[((i : Nat) : Int).toNat]? = some (.int (numN ns i : Nat) ti) := by simpa using hti
    have zi : i < 11 := by (first | exact (ch2 1 0 0 11 1 11 hi zn.2 (Eq.refl true)) | omega)
    have e1 : ((numN ns i : Int).fdiv 2).fmod 512 = ((numN ns i / 2 % 512 : Nat) : Int) := by
      rw [Int.fdiv_eq_ediv_of_nonneg _ (by (lia)), Int.fmod_eq_emod_of_nonneg _ (by (lia))]; (lia)
    have e2 : (numN ns i : Int).fmod 2 = ((numN ns i % 2 : Nat) : Int) := by
      rw [Int.fmod_eq_emod_of_nonneg _ (by omega)]; (lia)
    ((try k_extra "rf"); (repeat' (first | (k_extra "wb") | ((k_extra "lS"); (k_extra "wo")))))
    (rename News _ _ _ _ => N; rename Fr _ _ _ _ => F; refine item_list (hs := by with_unfolding_all rfl) (⟨_, (N (b, PySem.W.listOf ws.toArray 0) (by repeat' first | exact List.Mem.head _ | exact hb | exact List.mem_append_right _ hb | refine' List.Mem.tail _ ?_)).1, rfl, _, rfl⟩ : Heap.IsList _ b ws.toArray) (by first | with_reducible assumption | decide | exact Nat.le_trans (by with_reducible assumption) (Nat.le_of_ble_eq_true rfl) | omega) (by first | with_reducible assumption | decide | exact Nat.le_trans (by with_reducible assumption) (Nat.le_of_ble_eq_true rfl) | omega) (v := .int (numN ns i : Nat) ti) hti' ?_; (try dsimp only))
    ((try k_extra "rf"); (repeat' (first | (k_extra "wb") | ((k_extra "lC"); (k_extra "wo")))))
    rename News _ _ _ _ => N
    rename Fr _ _ _ _ => F
    (try k_fold)
    rw [e1]
    refine ct_way (X.keeps F.keep) (T.keeps F.keep) (by show ad + 5 < recursionLimit; first | exact room hroom rfl | exact room2 hroom rfl | exact room3 hroom rfl | omega) (by show au + 50 < cLine; first | exact room hun rfl | exact room2 hun rfl | exact room3 hun rfl | omega) (numN ns i / 2 % 512) _ (Nat.mod_lt _ (by (first | exact (ch0 1 512 (Eq.refl true)) | omega))) ?_
    intro h2 tk2 c l nn st2 hc hl2 nc
    have hl2 : l.map (·.1) = wayK ns i := hl2
    have F2 := fr_stay F st2
    have N2 := news_fresh F nc hc (news_stay N st2)
    have apart : ∀ q o, (q, o) ∈ (I, oI) :: (L + 1 + 1 + 1 + 1, o4) :: (L + 1 + 1 + 1, o3) :: (L + 1 + 1, o2) :: (L + 1, o1) :: (fi, PySem.W.listOf vi ni) :: (fo, PySem.W.listOf vo no) :: (Xs ++ W0) → @Ne Nat c q := fun q o hq z => by
      have z' : c = q := z
      have := (N _ hq).1
      rw [← z', nc] at this; cases this
    have c1 := apart I oI (.head _)
    have c2 := apart fi (PySem.W.listOf vi ni) (by k_mem)
    have c3 := apart fo (PySem.W.listOf vo no) (by k_mem)
    clear apart
    clear F N
    ((try k_extra "rf"); (repeat' (first | (k_extra "v0") | (k_extra "wn") | ((k_extra "ge"); (k_extra "ve")) | ((k_extra "gx"); (k_extra "lIf"); (k_extra "vx")) | (k_extra "rq") | ((k_extra "lIf"); (k_extra "wo")))))
    rename News _ _ _ _ => N
    rename Fr _ _ _ _ => F
    simp only [lmy_k, lmy_way] at F
    (try dsimp only at N)
    have zl : l.length ≤ 3 := by rw [← List.length_map (f := fun p : Str × Tok => p.1), hl2]; exact wayK_len ns i
    refine mid (M5 s base L (fun tb => { script := script, numbers := some (.ref b), folders := some (.ref fo), files := some (.ref fi), k := some (.int (i : Nat) t), way := some (.ref c), begn := some (.str (begK ns i) tb), letter := lt, near := near, seen := seen, word := word, close := close, plain := plain, wide := wide, told := told, due := due }) ((c, PySem.W.listOf (strValues l).toArray nn) :: (I, oI) :: (L + 1 + 1 + 1 + 1, o4) :: (L + 1 + 1 + 1, o3) :: (L + 1 + 1, o2) :: (L + 1, o1) :: (fi, PySem.W.listOf vi ni) :: (fo, PySem.W.listOf vo no) :: (Xs ++ W0))) ?_ ?_
    · ((try k_extra "rf"); (repeat' (first | (k_extra "wb") | ((k_extra "lS"); (k_extra "wo")))))
      (rename News _ _ _ _ => N; rename Fr _ _ _ _ => F; refine item_list (hs := by with_unfolding_all rfl) (⟨_, (N (b, PySem.W.listOf ws.toArray 0) (by repeat' first | exact List.Mem.head _ | exact hb | exact List.mem_append_right _ hb | refine' List.Mem.tail _ ?_)).1, rfl, _, rfl⟩ : Heap.IsList _ b ws.toArray) (by first | with_reducible assumption | decide | exact Nat.le_trans (by with_reducible assumption) (Nat.le_of_ble_eq_true rfl) | omega) (by first | with_reducible assumption | decide | exact Nat.le_trans (by with_reducible assumption) (Nat.le_of_ble_eq_true rfl) | omega) (v := .int (numN ns i : Nat) ti) hti' ?_; (try dsimp only))
      ((try k_extra "rf"); (repeat' (first | (k_extra "wb") | ((k_extra "lQ"); (k_extra "wo")))))
      rename News _ _ _ _ => N
      rename Fr _ _ _ _ => F
      by_cases hb : numN ns i < 1024
      · have q1 : decide ((numN ns i : Int) < 1024) = true := decide_eq_true (by (lia))
        have eb : begK ns i = Str.ofString "/" := if_pos hb
        ((try k_extra "rf"); (repeat' (first | (k_extra "w1") | (k_end; (k_extra "lAn"); (k_extra "vn")) | (k_extra "rq") | (k_extra "wo"))))
        ((try dsimp only); rename News _ _ _ _ => N; rename Fr _ _ _ _ => F; (try dsimp only at F N))
        simp only [lmy_begn] at F
        rw [← eb] at F
        exact ⟨rfl, _, _, _, rfl, F, N⟩
      · have q1 : ¬ (decide ((numN ns i : Int) < 1024) = true) := by rw [decide_eq_true_iff]; (lia)
        have eb : begK ns i = Str.ofString "/b/../" := if_neg hb
        ((try k_extra "rf"); (repeat' (first | (k_extra "w1") | (k_end; (k_extra "lAn"); (k_extra "vn")) | (k_extra "rq") | (k_extra "wo"))))
        ((try dsimp only); rename News _ _ _ _ => N; rename Fr _ _ _ _ => F; (try dsimp only at F N))
        simp only [lmy_begn] at F
        rw [← eb] at F
        exact ⟨rfl, _, _, _, rfl, F, N⟩
    clear F N st2 hc nc
    rintro _ hp3_1
    refine hideL ?_; intro gg3
    obtain ⟨h, k3, tb, rfl, F, N⟩ := hp3_1
    k_unfold
    ((try k_extra "rf"); (repeat' (first | (k_extra "wb") | ((k_extra "lS"); (k_extra "wo")))))
    (rename News _ _ _ _ => N; rename Fr _ _ _ _ => F; refine item_list (hs := by with_unfolding_all rfl) (⟨_, (N (b, PySem.W.listOf ws.toArray 0) (by repeat' first | exact List.Mem.head _ | exact hb | exact List.mem_append_right _ hb | refine' List.Mem.tail _ ?_)).1, rfl, _, rfl⟩ : Heap.IsList _ b ws.toArray) (by first | with_reducible assumption | decide | exact Nat.le_trans (by with_reducible assumption) (Nat.le_of_ble_eq_true rfl) | omega) (by first | with_reducible assumption | decide | exact Nat.le_trans (by with_reducible assumption) (Nat.le_of_ble_eq_true rfl) | omega) (v := .int (numN ns i : Nat) ti) hti' ?_; (try dsimp only))
    ((try k_extra "rf"); (repeat' (first | (k_extra "wb") | ((k_extra "lQ"); (k_extra "wo")))))
    have hcl : ∀ {h' : Heap} {m' : Str → Option Value} {led : List (Addr × Obj)}, News base L h' led → (c, PySem.W.listOf (strValues l).toArray nn) ∈ led → h'.IsList c (strValues l).toArray := fun N hm => ⟨_, (N _ hm).1, rfl, _, rfl⟩
    by_cases hp : numN ns i % 2 = 0
    · have q1 : ((numN ns i : Int).fmod 2 == 0) = true := by rw [e2, hp]; rfl
      have zj := join_small (wayK ns i) (fun x hx => (wayK_good ns i x hx).sm) (Nat.le_trans (wayK_len ns i) (Nat.le_of_ble_eq_true rfl))
      have zb : (begK ns i).length ≤ 10 := by unfold begK; split <;> decide +kernel
      have zl2 : (strValues l).toArray.size ≤ 3 := by rw [sv_size]; exact zl
      ((try k_extra "rf"); (repeat' (first | (k_extra "wb") | ((k_extra "lB"); (k_extra "wo")))))
      rename News _ _ _ _ => N
      rename Fr _ _ _ _ => F
      refine SC.join (⟨_, (N (c, PySem.W.listOf (strValues l).toArray nn) (by k_mem)).1, rfl, _, rfl⟩ : Heap.IsList _ c (strValues l).toArray) hl2 (joinOk_of_weight (wt_of (m := 3) (fun x hx => (wayK_good ns i x hx).sm) (wayK_len ns i) rfl) (by decide)) ?_
      intro tj kj
      (try dsimp only)
      ((try k_extra "rf"); (repeat' (first | (k_extra "wb") | ((k_extra "lB"); (k_extra "wo")))))
      rename News _ _ _ _ => N
      rename Fr _ _ _ _ => F
      rename (@LT.lt Nat _ c _ ∧ _) => bl
      have f1 : @Ne Nat fo I := hne (fo, PySem.W.listOf vo no) (by k_mem)
      have f2 : @Ne Nat fi I := hne (fi, PySem.W.listOf vi ni) (by k_mem)
      rename Addr => ln
      refine append_led (pre := [_, _, _, _, _, _, _, _]) F N ?_ ?_ ?_ ?_
      · refine fmc ?_ (fmc ?_ (fmc ?_ (fmc ?_ (fmc ?_ (fmc ?_ (fmc ?_ (fmc ?_ (List.forall_mem_nil _)))))))) <;> ((show @Ne Nat _ _; first | exact cne b3 4 rfl | exact cne b3 3 rfl | exact cne b3 2 rfl | exact cne b3 1 rfl | exact cne b4 4 rfl | exact cne b4 3 rfl | exact cne b4 2 rfl | exact cne b4 1 rfl | exact Nat.ne_of_lt b2 | exact Nat.ne_of_gt b2 | exact Nat.ne_of_gt bI | exact Nat.ne_of_lt bI | exact Nat.ne_of_lt (Nat.lt_trans b2 bI) | exact Nat.ne_of_gt (Nat.lt_trans b2 bI) | exact Nat.ne_of_gt bl.1 | exact Nat.ne_of_gt bl.2.1 | exact Nat.ne_of_gt bl.2.2.1 | exact Nat.ne_of_gt bl.2.2.2.1 | exact Nat.ne_of_gt bl.2.2.2.2.1 | exact Nat.ne_of_gt bl.2.2.2.2.2.1 | exact Nat.ne_of_gt bl.2.2.2.2.2.2.1 | exact Nat.ne_of_gt bl.2.2.2.2.2.2.2.1 | exact Nat.ne_of_gt bl.2.2.2.2.2.2.2.2.1 | exact Nat.ne_of_lt bl.1 | exact Nat.ne_of_lt bl.2.1 | exact Nat.ne_of_lt bl.2.2.1 | exact Nat.ne_of_lt bl.2.2.2.1 | exact Nat.ne_of_lt bl.2.2.2.2.1 | exact Nat.ne_of_lt bl.2.2.2.2.2.1 | exact Nat.ne_of_lt bl.2.2.2.2.2.2.1 | exact Nat.ne_of_lt bl.2.2.2.2.2.2.2.1 | exact Nat.ne_of_lt bl.2.2.2.2.2.2.2.2.1 | omega))
      · intro q hq
        rcases List.mem_append.mp hq with hq | hq
        · exact (bX q hq).2.2
        · exact Nat.ne_of_lt (b1 q hq)
      · have h1 := bearsL_len bo
        rw [List.length_map] at h1
        have h2 := folL_len ns i
        rw [Array.length_toList] at h1
        have h3 : (1000 : Nat) ≤ sizeLine := by decide
        (first | exact (ch3 0 0 1 0 1 0 0 0 hC hCD z (Eq.refl true)) | exact (ch2 1 0 0 0 1 0 hlt (Nat.le_of_eq this.symm) (Eq.refl true)) | exact (ch3 821 0 0 0 1 0 2 0 z0 hC hCD (Eq.refl true)) | exact (And.intro (lin0 1 [_] (.k 5) (.a (.v 0) (.a (.a (.a (.a (.a (.k 0) (.k 1)) (.k 1)) (.k 1)) (.k 1)) (.k 1))) rfl (Eq.refl true)) (lin1 1 [_] 0 (.a (.v 0) (.a (.a (.a (.a (.a (.k 0) (.k 1)) (.k 1)) (.k 1)) (.k 1)) (.k 1))) (.k 11) 1 (.v 0) (.k 6) (Nat.min_le_left _ _) rfl (Eq.refl true))) | exact (lin1 1 [_] 0 (.a (.a (.a (.k 0) (.k 1)) (.v 0)) (.k 1)) (.k 1000) 1 (.v 0) (.k 200) this rfl (Eq.refl true)) | exact (Nat.le_antisymm (lin1 2 [_, _] 0 (.v 0) (.v 1) 1 (.v 0) (.v 1) hc3 rfl (Eq.refl true)) (lin1 2 [_, _] 0 (.v 0) (.v 1) 1 (.v 0) (.v 1) this rfl (Eq.refl true))) | exact (lin2 2 [_, _] 0 (.a (.a (.v 0) (.v 1)) (.k 1)) (.k 900) 1 (.v 1) (.k 200) 1 (.v 0) (.k 1) h1 (Nat.le_of_eq this) rfl (Eq.refl true)) | exact (ch4 0 0 0 0 1 11 1000 0 0 0 (Nat.le_of_eq h1) h2 zi h3 (Eq.refl true)) | exact (ch4 0 0 0 0 1 11 1000 0 0 0 (Nat.le_of_eq h1) h2 zi z1000 (Eq.refl true)) | omega)
      intro h6 F6 N6
      clear F N
      ((try k_extra "rf"); (repeat' (first | (k_extra "w1") | (k_end; (k_extra "lAn"); (k_extra "vn")) | (k_extra "rq") | (k_extra "wo"))))
      ((try dsimp only); rename News _ _ _ _ => N; rename Fr _ _ _ _ => F; (try dsimp only at F N))
      rename_i tw kw aw _
      have N0 : News base L h6 ((I, oI) :: (L + 1 + 1 + 1 + 1, o4) :: (L + 1 + 1 + 1, o3) :: (L + 1 + 1, o2) :: (L + 1, o1) :: (fi, PySem.W.listOf vi ni) :: (fo, PySem.W.listOf (vo.push (.ref ln)) (no + 1)) :: (((ln, PySem.W.listOf #[Value.ref c, Value.str (begK ns i ++ Txt.join (Str.ofString "/") (wayK ns i)) tw] 0) :: (c, PySem.W.listOf (strValues l).toArray nn) :: Xs) ++ W0)) := by
        dsimp only [List.cons_append, List.nil_append] at N ⊢
        repeat' first | refine nw N (by k_mem) ?_ | exact fun p hp => N p (by repeat' first | exact hp | refine' List.Mem.tail _ ?_)
      have hm1 : (c, PySem.W.listOf (strValues l).toArray nn) ∈ (ln, PySem.W.listOf #[Value.ref c, Value.str (begK ns i ++ Txt.join (Str.ofString "/") (wayK ns i)) tw] 0) :: (c, PySem.W.listOf (strValues l).toArray nn) :: Xs := .tail _ (.head _)
      have sub : ∀ q ∈ Xs, q ∈ (ln, PySem.W.listOf #[Value.ref c, Value.str (begK ns i ++ Txt.join (Str.ofString "/") (wayK ns i)) tw] 0) :: (c, PySem.W.listOf (strValues l).toArray nn) :: Xs := fun q hq => .tail _ (.tail _ hq)
      refine ⟨.inl rfl, _, _, _, _, rfl, F, N0, ?_, some (.int (i : Nat) t), some (.ref c), some (.str (begK ns i) tb), lt, vo.push (.ref ln), no + 1, vi, ni, _, rfl, rfl, ?_, ?_, ?_, bI⟩
      · dsimp only [List.cons_append]
        repeat' first | refine fmn hne (by k_mem) ?_ | refine fmc f2 ?_ | refine fmc f1 ?_ | refine fmc c1 ?_ | refine fmc (by ((show @Ne Nat _ _; first | exact cne b3 4 rfl | exact cne b3 3 rfl | exact cne b3 2 rfl | exact cne b3 1 rfl | exact cne b4 4 rfl | exact cne b4 3 rfl | exact cne b4 2 rfl | exact cne b4 1 rfl | exact Nat.ne_of_lt b2 | exact Nat.ne_of_gt b2 | exact Nat.ne_of_gt bI | exact Nat.ne_of_lt bI | exact Nat.ne_of_lt (Nat.lt_trans b2 bI) | exact Nat.ne_of_gt (Nat.lt_trans b2 bI) | exact Nat.ne_of_gt bl.1 | exact Nat.ne_of_gt bl.2.1 | exact Nat.ne_of_gt bl.2.2.1 | exact Nat.ne_of_gt bl.2.2.2.1 | exact Nat.ne_of_gt bl.2.2.2.2.1 | exact Nat.ne_of_gt bl.2.2.2.2.2.1 | exact Nat.ne_of_gt bl.2.2.2.2.2.2.1 | exact Nat.ne_of_gt bl.2.2.2.2.2.2.2.1 | exact Nat.ne_of_gt bl.2.2.2.2.2.2.2.2.1 | exact Nat.ne_of_lt bl.1 | exact Nat.ne_of_lt bl.2.1 | exact Nat.ne_of_lt bl.2.2.1 | exact Nat.ne_of_lt bl.2.2.2.1 | exact Nat.ne_of_lt bl.2.2.2.2.1 | exact Nat.ne_of_lt bl.2.2.2.2.2.1 | exact Nat.ne_of_lt bl.2.2.2.2.2.2.1 | exact Nat.ne_of_lt bl.2.2.2.2.2.2.2.1 | exact Nat.ne_of_lt bl.2.2.2.2.2.2.2.2.1 | omega))) ?_ | exact fun p hp => hne p (by repeat' first | exact hp | refine' List.Mem.tail _ ?_)
      · rw [folL_succ, if_pos hp, List.map_append, Array.toList_push]
        exact bearsL_snoc (bears_l (.head _) (bearsL_cons (bears_l hm1 (by rw [← hl2]; exact texts_bear l)) (bearsL_cons bears_s bearsL_nil))) (BearsL.mono sub _ _ bo)
      · rw [filL_succ, if_pos hp, List.append_nil]
        exact BearsL.mono sub _ _ bi
      · exact List.forall_mem_cons.mpr ⟨⟨⟨_, _, rfl⟩, by ((show @Ne Nat _ _; first | exact cne b3 4 rfl | exact cne b3 3 rfl | exact cne b3 2 rfl | exact cne b3 1 rfl | exact cne b4 4 rfl | exact cne b4 3 rfl | exact cne b4 2 rfl | exact cne b4 1 rfl | exact Nat.ne_of_lt b2 | exact Nat.ne_of_gt b2 | exact Nat.ne_of_gt bI | exact Nat.ne_of_lt bI | exact Nat.ne_of_lt (Nat.lt_trans b2 bI) | exact Nat.ne_of_gt (Nat.lt_trans b2 bI) | exact Nat.ne_of_gt bl.1 | exact Nat.ne_of_gt bl.2.1 | exact Nat.ne_of_gt bl.2.2.1 | exact Nat.ne_of_gt bl.2.2.2.1 | exact Nat.ne_of_gt bl.2.2.2.2.1 | exact Nat.ne_of_gt bl.2.2.2.2.2.1 | exact Nat.ne_of_gt bl.2.2.2.2.2.2.1 | exact Nat.ne_of_gt bl.2.2.2.2.2.2.2.1 | exact Nat.ne_of_gt bl.2.2.2.2.2.2.2.2.1 | exact Nat.ne_of_lt bl.1 | exact Nat.ne_of_lt bl.2.1 | exact Nat.ne_of_lt bl.2.2.1 | exact Nat.ne_of_lt bl.2.2.2.1 | exact Nat.ne_of_lt bl.2.2.2.2.1 | exact Nat.ne_of_lt bl.2.2.2.2.2.1 | exact Nat.ne_of_lt bl.2.2.2.2.2.2.1 | exact Nat.ne_of_lt bl.2.2.2.2.2.2.2.1 | exact Nat.ne_of_lt bl.2.2.2.2.2.2.2.2.1 | omega)), by ((show @Ne Nat _ _; first | exact cne b3 4 rfl | exact cne b3 3 rfl | exact cne b3 2 rfl | exact cne b3 1 rfl | exact cne b4 4 rfl | exact cne b4 3 rfl | exact cne b4 2 rfl | exact cne b4 1 rfl | exact Nat.ne_of_lt b2 | exact Nat.ne_of_gt b2 | exact Nat.ne_of_gt bI | exact Nat.ne_of_lt bI | exact Nat.ne_of_lt (Nat.lt_trans b2 bI) | exact Nat.ne_of_gt (Nat.lt_trans b2 bI) | exact Nat.ne_of_gt bl.1 | exact Nat.ne_of_gt bl.2.1 | exact Nat.ne_of_gt bl.2.2.1 | exact Nat.ne_of_gt bl.2.2.2.1 | exact Nat.ne_of_gt bl.2.2.2.2.1 | exact Nat.ne_of_gt bl.2.2.2.2.2.1 | exact Nat.ne_of_gt bl.2.2.2.2.2.2.1 | exact Nat.ne_of_gt bl.2.2.2.2.2.2.2.1 | exact Nat.ne_of_gt bl.2.2.2.2.2.2.2.2.1 | exact Nat.ne_of_lt bl.1 | exact Nat.ne_of_lt bl.2.1 | exact Nat.ne_of_lt bl.2.2.1 | exact Nat.ne_of_lt bl.2.2.2.1 | exact Nat.ne_of_lt bl.2.2.2.2.1 | exact Nat.ne_of_lt bl.2.2.2.2.2.1 | exact Nat.ne_of_lt bl.2.2.2.2.2.2.1 | exact Nat.ne_of_lt bl.2.2.2.2.2.2.2.1 | exact Nat.ne_of_lt bl.2.2.2.2.2.2.2.2.1 | omega))⟩, List.forall_mem_cons.mpr ⟨⟨⟨_, _, rfl⟩, c2, c3⟩, bX⟩⟩
    · have q1 : ¬ (((numN ns i : Int).fmod 2 == 0) = true) := by rw [e2]; simp; (lia)
      have zi2 : (97 + (i : Int)) = ((97 + i : Nat) : Int) := by (lia)
      ((try k_extra "rf"); (repeat' (first | (k_extra "wb") | ((k_extra "lB"); (k_extra "lAd"); (k_extra "wo")))))
      rename News _ _ _ _ => N
      rename Fr _ _ _ _ => F
      (try k_fold)
      refine chr_of_range (by (lia)) (by (lia)) ?_
      have ec : (⟨#[(97 + (i : Int)).toNat]⟩ : Str) = letK i := by unfold letK; congr 2
      rw [ec]
      have zlt : (letK i).length = 1 := rfl
      (try dsimp only)
      have zl2 : (strValues l).length ≤ 3 := by rw [strValues, List.length_map]; exact zl
      have z1000 : (1000 : Nat) ≤ sizeLine := by decide
      have zfw := fwK_len ns i
      have zj := join_small (fwK ns i) (fun x hx => (fwK_good ns i x hx).sm) (by (first | exact (ch1 0 4 0 20 zfw (Eq.refl true)) | omega))
      have zb : (begK ns i).length ≤ 10 := by unfold begK; split <;> decide +kernel
      have hfw : ∀ u : Tok, (l ++ [(fnK i, u)]).map (·.1) = fwK ns i := fun u => by rw [List.map_append, hl2]; rfl
      ((try k_extra "rf"); (repeat' (first | (k_extra "wb") | ((k_extra "lAd"); (k_extra "wo")))))
      rename News _ _ _ _ => N
      rename Fr _ _ _ _ => F
      rename (@LT.lt Nat _ c _ ∧ _) => bl1
      rename Addr => l1
      rename_i t1 _ _ _
      refine add_lists (vs := strValues l) (ws := strValues [(fnK i, t1)]) F N ⟨_, (N (c, PySem.W.listOf (strValues l).toArray nn) (by k_mem)).1, rfl, _, rfl⟩ (N.isList (.head _)) ?_ (by simp only [strValues, List.length_map, List.length_cons, List.length_nil] at zl2 ⊢; omega)
      intro h4 F4 N4
      rw [← sv_append] at N4
      generalize hA : Shared.heap _ = hA1 at N4 ⊢
      have bA : @LT.lt Nat _ l1 hA1.objs.size := by rw [← hA]; exact Heap.lt_size (N _ (.head _)).1
      generalize hA1.objs.size = a1 at N4 bA ⊢
      have N5 : News base L h4 ((a1, lst (l ++ [(fnK i, t1)]) 0) :: (c, PySem.W.listOf (strValues l).toArray nn) :: (I, oI) :: (L + 1 + 1 + 1 + 1, o4) :: (L + 1 + 1 + 1, o3) :: (L + 1 + 1, o2) :: (L + 1, o1) :: (fi, PySem.W.listOf vi ni) :: (fo, PySem.W.listOf vo no) :: (Xs ++ W0)) := List.forall_mem_cons.mpr ⟨N4 _ (.head _), news_tail (news_tail N4)⟩
      clear N4 F N hA
      (try dsimp only)
      ((try k_extra "rf"); (repeat' (first | (k_extra "wb") | ((k_extra "lAd"); (k_extra "wo")))))
      rename News _ _ _ _ => N
      rename Fr _ _ _ _ => F
      rename (@LT.lt Nat _ a1 _ ∧ _) => bl2
      rename_i t2 _ _ l2 _
      refine add_lists (vs := strValues l) (ws := strValues [(fnK i, t2)]) F N ⟨_, (N (c, PySem.W.listOf (strValues l).toArray nn) (by k_mem)).1, rfl, _, rfl⟩ (N.isList (.head _)) ?_ (by simp only [strValues, List.length_map, List.length_cons, List.length_nil] at zl2 ⊢; omega)
      intro h5 F5 N6
      rw [← sv_append] at N6
      generalize hB : Shared.heap _ = hB1 at N6 ⊢
      have bB : @LT.lt Nat _ l2 hB1.objs.size := by rw [← hB]; exact Heap.lt_size (N _ (.head _)).1
      generalize hB1.objs.size = a2 at N6 bB ⊢
      clear F N hB
      (try dsimp only)
      ((try k_extra "rf"); (repeat' (first | (k_extra "wb") | ((k_extra "lB"); (k_extra "wo")))))
      rename News _ _ _ _ => N
      rename Fr _ _ _ _ => F
      refine SC.join (N.isList (.head _)) (hfw t2) (joinOk_of_weight (wt_of (m := 4) (fun x hx => (fwK_good ns i x hx).sm) (fwK_len ns i) rfl) (by decide)) ?_
      intro tj kj
      (try dsimp only)
      have N7 : News base L _ ((a1, lst (l ++ [(fnK i, t1)]) 0) :: (c, PySem.W.listOf (strValues l).toArray nn) :: (I, oI) :: (L + 1 + 1 + 1 + 1, o4) :: (L + 1 + 1 + 1, o3) :: (L + 1 + 1, o2) :: (L + 1, o1) :: (fi, PySem.W.listOf vi ni) :: (fo, PySem.W.listOf vo no) :: (Xs ++ W0)) := news_tail (news_tail N)
      clear N
      ((try k_extra "rf"); (repeat' (first | (k_extra "wb") | ((k_extra "lB"); (k_extra "wo")))))
      rename News _ _ _ _ => N
      rename Fr _ _ _ _ => F
      rename (@LT.lt Nat _ a1 _ ∧ _ ∧ _ ∧ _ ∧ _ ∧ _ ∧ _ ∧ _ ∧ _ ∧ AllLt _ _) => bl
      have f1 : @Ne Nat fo I := hne (fo, PySem.W.listOf vo no) (by k_mem)
      have f2 : @Ne Nat fi I := hne (fi, PySem.W.listOf vi ni) (by k_mem)
      rename_i tlet _ _ _ _ _ _ tw _ _ ln _
      refine append_led (pre := [_, _, _, _, _, _, _, _]) F N ?_ ?_ ?_ ?_
      · refine fmc ?_ (fmc ?_ (fmc ?_ (fmc ?_ (fmc ?_ (fmc ?_ (fmc ?_ (fmc ?_ (List.forall_mem_nil _)))))))) <;> ((show @Ne Nat _ _; first | exact cne b3 4 rfl | exact cne b3 3 rfl | exact cne b3 2 rfl | exact cne b3 1 rfl | exact cne b4 4 rfl | exact cne b4 3 rfl | exact cne b4 2 rfl | exact cne b4 1 rfl | exact Nat.ne_of_lt b2 | exact Nat.ne_of_gt b2 | exact Nat.ne_of_gt bI | exact Nat.ne_of_lt bI | exact Nat.ne_of_lt (Nat.lt_trans b2 bI) | exact Nat.ne_of_gt (Nat.lt_trans b2 bI) | exact Nat.ne_of_gt bl.1 | exact Nat.ne_of_gt bl.2.1 | exact Nat.ne_of_gt bl.2.2.1 | exact Nat.ne_of_gt bl.2.2.2.1 | exact Nat.ne_of_gt bl.2.2.2.2.1 | exact Nat.ne_of_gt bl.2.2.2.2.2.1 | exact Nat.ne_of_gt bl.2.2.2.2.2.2.1 | exact Nat.ne_of_gt bl.2.2.2.2.2.2.2.1 | exact Nat.ne_of_gt bl.2.2.2.2.2.2.2.2.1 | exact Nat.ne_of_lt bl.1 | exact Nat.ne_of_lt bl.2.1 | exact Nat.ne_of_lt bl.2.2.1 | exact Nat.ne_of_lt bl.2.2.2.1 | exact Nat.ne_of_lt bl.2.2.2.2.1 | exact Nat.ne_of_lt bl.2.2.2.2.2.1 | exact Nat.ne_of_lt bl.2.2.2.2.2.2.1 | exact Nat.ne_of_lt bl.2.2.2.2.2.2.2.1 | exact Nat.ne_of_lt bl.2.2.2.2.2.2.2.2.1 | omega))
      · intro q hq
        rcases List.mem_cons.mp hq with rfl | hq
        · ((show @Ne Nat _ _; first | exact cne b3 4 rfl | exact cne b3 3 rfl | exact cne b3 2 rfl | exact cne b3 1 rfl | exact cne b4 4 rfl | exact cne b4 3 rfl | exact cne b4 2 rfl | exact cne b4 1 rfl | exact Nat.ne_of_lt b2 | exact Nat.ne_of_gt b2 | exact Nat.ne_of_gt bI | exact Nat.ne_of_lt bI | exact Nat.ne_of_lt (Nat.lt_trans b2 bI) | exact Nat.ne_of_gt (Nat.lt_trans b2 bI) | exact Nat.ne_of_gt bl.1 | exact Nat.ne_of_gt bl.2.1 | exact Nat.ne_of_gt bl.2.2.1 | exact Nat.ne_of_gt bl.2.2.2.1 | exact Nat.ne_of_gt bl.2.2.2.2.1 | exact Nat.ne_of_gt bl.2.2.2.2.2.1 | exact Nat.ne_of_gt bl.2.2.2.2.2.2.1 | exact Nat.ne_of_gt bl.2.2.2.2.2.2.2.1 | exact Nat.ne_of_gt bl.2.2.2.2.2.2.2.2.1 | exact Nat.ne_of_lt bl.1 | exact Nat.ne_of_lt bl.2.1 | exact Nat.ne_of_lt bl.2.2.1 | exact Nat.ne_of_lt bl.2.2.2.1 | exact Nat.ne_of_lt bl.2.2.2.2.1 | exact Nat.ne_of_lt bl.2.2.2.2.2.1 | exact Nat.ne_of_lt bl.2.2.2.2.2.2.1 | exact Nat.ne_of_lt bl.2.2.2.2.2.2.2.1 | exact Nat.ne_of_lt bl.2.2.2.2.2.2.2.2.1 | omega))
        · rcases List.mem_append.mp hq with hq | hq
          · exact (bX q hq).2.1
          · have := b1 q hq; ((show @Ne Nat _ _; first | exact cne b3 4 rfl | exact cne b3 3 rfl | exact cne b3 2 rfl | exact cne b3 1 rfl | exact cne b4 4 rfl | exact cne b4 3 rfl | exact cne b4 2 rfl | exact cne b4 1 rfl | exact Nat.ne_of_lt b2 | exact Nat.ne_of_gt b2 | exact Nat.ne_of_gt bI | exact Nat.ne_of_lt bI | exact Nat.ne_of_lt (Nat.lt_trans b2 bI) | exact Nat.ne_of_gt (Nat.lt_trans b2 bI) | exact Nat.ne_of_gt bl.1 | exact Nat.ne_of_gt bl.2.1 | exact Nat.ne_of_gt bl.2.2.1 | exact Nat.ne_of_gt bl.2.2.2.1 | exact Nat.ne_of_gt bl.2.2.2.2.1 | exact Nat.ne_of_gt bl.2.2.2.2.2.1 | exact Nat.ne_of_gt bl.2.2.2.2.2.2.1 | exact Nat.ne_of_gt bl.2.2.2.2.2.2.2.1 | exact Nat.ne_of_gt bl.2.2.2.2.2.2.2.2.1 | exact Nat.ne_of_lt bl.1 | exact Nat.ne_of_lt bl.2.1 | exact Nat.ne_of_lt bl.2.2.1 | exact Nat.ne_of_lt bl.2.2.2.1 | exact Nat.ne_of_lt bl.2.2.2.2.1 | exact Nat.ne_of_lt bl.2.2.2.2.2.1 | exact Nat.ne_of_lt bl.2.2.2.2.2.2.1 | exact Nat.ne_of_lt bl.2.2.2.2.2.2.2.1 | exact Nat.ne_of_lt bl.2.2.2.2.2.2.2.2.1 | omega))
      · have h1 := bearsL_len bi
        rw [List.length_map] at h1
        have h2 := filL_len ns i
        rw [Array.length_toList] at h1
        (first | exact (ch3 0 0 1 0 1 0 0 0 hC hCD z (Eq.refl true)) | exact (ch2 1 0 0 0 1 0 hlt (Nat.le_of_eq this.symm) (Eq.refl true)) | exact (ch3 821 0 0 0 1 0 2 0 z0 hC hCD (Eq.refl true)) | exact (And.intro (lin0 1 [_] (.k 5) (.a (.v 0) (.a (.a (.a (.a (.a (.k 0) (.k 1)) (.k 1)) (.k 1)) (.k 1)) (.k 1))) rfl (Eq.refl true)) (lin1 1 [_] 0 (.a (.v 0) (.a (.a (.a (.a (.a (.k 0) (.k 1)) (.k 1)) (.k 1)) (.k 1)) (.k 1))) (.k 11) 1 (.v 0) (.k 6) (Nat.min_le_left _ _) rfl (Eq.refl true))) | exact (lin1 1 [_] 0 (.a (.a (.a (.k 0) (.k 1)) (.v 0)) (.k 1)) (.k 1000) 1 (.v 0) (.k 200) this rfl (Eq.refl true)) | exact (Nat.le_antisymm (lin1 2 [_, _] 0 (.v 0) (.v 1) 1 (.v 0) (.v 1) hc3 rfl (Eq.refl true)) (lin1 2 [_, _] 0 (.v 0) (.v 1) 1 (.v 0) (.v 1) this rfl (Eq.refl true))) | exact (lin2 2 [_, _] 0 (.a (.a (.v 0) (.v 1)) (.k 1)) (.k 900) 1 (.v 1) (.k 200) 1 (.v 0) (.k 1) h1 (Nat.le_of_eq this) rfl (Eq.refl true)) | exact (ch4 0 0 0 0 1 11 1000 0 0 0 (Nat.le_of_eq h1) h2 zi h3 (Eq.refl true)) | exact (ch4 0 0 0 0 1 11 1000 0 0 0 (Nat.le_of_eq h1) h2 zi z1000 (Eq.refl true)) | omega)
      intro h6 F6 N8
      clear F N
      ((try k_extra "rf"); (repeat' (first | (k_extra "w1") | (k_end; (k_extra "lAn"); (k_extra "vn")) | (k_extra "rq") | (k_extra "wo"))))
      ((try dsimp only); rename News _ _ _ _ => N; rename Fr _ _ _ _ => F; (try dsimp only at F N))
      simp only [lmy_letter] at F
      have N0 := perm_fi N
      refine ⟨.inl rfl, _, _, _, _, rfl, F, N0, ?_, some (.int (i : Nat) t), some (.ref c), some (.str (begK ns i) tb), _, vo, no, vi.push (.ref ln), ni + 1, _, rfl, rfl, ?_, ?_, ?_, bI⟩
      · dsimp only [List.cons_append]
        repeat' first | refine fmn hne (by k_mem) ?_ | refine fmc f2 ?_ | refine fmc f1 ?_ | refine fmc c1 ?_ | refine fmc (by ((show @Ne Nat _ _; first | exact cne b3 4 rfl | exact cne b3 3 rfl | exact cne b3 2 rfl | exact cne b3 1 rfl | exact cne b4 4 rfl | exact cne b4 3 rfl | exact cne b4 2 rfl | exact cne b4 1 rfl | exact Nat.ne_of_lt b2 | exact Nat.ne_of_gt b2 | exact Nat.ne_of_gt bI | exact Nat.ne_of_lt bI | exact Nat.ne_of_lt (Nat.lt_trans b2 bI) | exact Nat.ne_of_gt (Nat.lt_trans b2 bI) | exact Nat.ne_of_gt bl.1 | exact Nat.ne_of_gt bl.2.1 | exact Nat.ne_of_gt bl.2.2.1 | exact Nat.ne_of_gt bl.2.2.2.1 | exact Nat.ne_of_gt bl.2.2.2.2.1 | exact Nat.ne_of_gt bl.2.2.2.2.2.1 | exact Nat.ne_of_gt bl.2.2.2.2.2.2.1 | exact Nat.ne_of_gt bl.2.2.2.2.2.2.2.1 | exact Nat.ne_of_gt bl.2.2.2.2.2.2.2.2.1 | exact Nat.ne_of_lt bl.1 | exact Nat.ne_of_lt bl.2.1 | exact Nat.ne_of_lt bl.2.2.1 | exact Nat.ne_of_lt bl.2.2.2.1 | exact Nat.ne_of_lt bl.2.2.2.2.1 | exact Nat.ne_of_lt bl.2.2.2.2.2.1 | exact Nat.ne_of_lt bl.2.2.2.2.2.2.1 | exact Nat.ne_of_lt bl.2.2.2.2.2.2.2.1 | exact Nat.ne_of_lt bl.2.2.2.2.2.2.2.2.1 | omega))) ?_ | exact fun p hp => hne p (by repeat' first | exact hp | refine' List.Mem.tail _ ?_)
      · rw [folL_succ, if_neg hp, List.append_nil]
        exact BearsL.mono (fun q hq => .tail _ (.tail _ hq)) _ _ bo
      · rw [filL_succ, if_neg hp, List.map_append, Array.toList_push]
        exact bearsL_snoc (bears_l (.head _) (bearsL_cons (bears_l (.tail _ (.head _)) (by rw [← hfw t1]; exact texts_bear _)) (bearsL_cons bears_s (bearsL_cons bears_s bearsL_nil)))) (BearsL.mono (fun q hq => .tail _ (.tail _ hq)) _ _ bi)
      · exact List.forall_mem_cons.mpr ⟨⟨⟨_, _, rfl⟩, by ((show @Ne Nat _ _; first | exact cne b3 4 rfl | exact cne b3 3 rfl | exact cne b3 2 rfl | exact cne b3 1 rfl | exact cne b4 4 rfl | exact cne b4 3 rfl | exact cne b4 2 rfl | exact cne b4 1 rfl | exact Nat.ne_of_lt b2 | exact Nat.ne_of_gt b2 | exact Nat.ne_of_gt bI | exact Nat.ne_of_lt bI | exact Nat.ne_of_lt (Nat.lt_trans b2 bI) | exact Nat.ne_of_gt (Nat.lt_trans b2 bI) | exact Nat.ne_of_gt bl.1 | exact Nat.ne_of_gt bl.2.1 | exact Nat.ne_of_gt bl.2.2.1 | exact Nat.ne_of_gt bl.2.2.2.1 | exact Nat.ne_of_gt bl.2.2.2.2.1 | exact Nat.ne_of_gt bl.2.2.2.2.2.1 | exact Nat.ne_of_gt bl.2.2.2.2.2.2.1 | exact Nat.ne_of_gt bl.2.2.2.2.2.2.2.1 | exact Nat.ne_of_gt bl.2.2.2.2.2.2.2.2.1 | exact Nat.ne_of_lt bl.1 | exact Nat.ne_of_lt bl.2.1 | exact Nat.ne_of_lt bl.2.2.1 | exact Nat.ne_of_lt bl.2.2.2.1 | exact Nat.ne_of_lt bl.2.2.2.2.1 | exact Nat.ne_of_lt bl.2.2.2.2.2.1 | exact Nat.ne_of_lt bl.2.2.2.2.2.2.1 | exact Nat.ne_of_lt bl.2.2.2.2.2.2.2.1 | exact Nat.ne_of_lt bl.2.2.2.2.2.2.2.2.1 | omega)), by ((show @Ne Nat _ _; first | exact cne b3 4 rfl | exact cne b3 3 rfl | exact cne b3 2 rfl | exact cne b3 1 rfl | exact cne b4 4 rfl | exact cne b4 3 rfl | exact cne b4 2 rfl | exact cne b4 1 rfl | exact Nat.ne_of_lt b2 | exact Nat.ne_of_gt b2 | exact Nat.ne_of_gt bI | exact Nat.ne_of_lt bI | exact Nat.ne_of_lt (Nat.lt_trans b2 bI) | exact Nat.ne_of_gt (Nat.lt_trans b2 bI) | exact Nat.ne_of_gt bl.1 | exact Nat.ne_of_gt bl.2.1 | exact Nat.ne_of_gt bl.2.2.1 | exact Nat.ne_of_gt bl.2.2.2.1 | exact Nat.ne_of_gt bl.2.2.2.2.1 | exact Nat.ne_of_gt bl.2.2.2.2.2.1 | exact Nat.ne_of_gt bl.2.2.2.2.2.2.1 | exact Nat.ne_of_gt bl.2.2.2.2.2.2.2.1 | exact Nat.ne_of_gt bl.2.2.2.2.2.2.2.2.1 | exact Nat.ne_of_lt bl.1 | exact Nat.ne_of_lt bl.2.1 | exact Nat.ne_of_lt bl.2.2.1 | exact Nat.ne_of_lt bl.2.2.2.1 | exact Nat.ne_of_lt bl.2.2.2.2.1 | exact Nat.ne_of_lt bl.2.2.2.2.2.1 | exact Nat.ne_of_lt bl.2.2.2.2.2.2.1 | exact Nat.ne_of_lt bl.2.2.2.2.2.2.2.1 | exact Nat.ne_of_lt bl.2.2.2.2.2.2.2.2.1 | omega))⟩, List.forall_mem_cons.mpr ⟨⟨⟨_, _, rfl⟩, by ((show @Ne Nat _ _; first | exact cne b3 4 rfl | exact cne b3 3 rfl | exact cne b3 2 rfl | exact cne b3 1 rfl | exact cne b4 4 rfl | exact cne b4 3 rfl | exact cne b4 2 rfl | exact cne b4 1 rfl | exact Nat.ne_of_lt b2 | exact Nat.ne_of_gt b2 | exact Nat.ne_of_gt bI | exact Nat.ne_of_lt bI | exact Nat.ne_of_lt (Nat.lt_trans b2 bI) | exact Nat.ne_of_gt (Nat.lt_trans b2 bI) | exact Nat.ne_of_gt bl.1 | exact Nat.ne_of_gt bl.2.1 | exact Nat.ne_of_gt bl.2.2.1 | exact Nat.ne_of_gt bl.2.2.2.1 | exact Nat.ne_of_gt bl.2.2.2.2.1 | exact Nat.ne_of_gt bl.2.2.2.2.2.1 | exact Nat.ne_of_gt bl.2.2.2.2.2.2.1 | exact Nat.ne_of_gt bl.2.2.2.2.2.2.2.1 | exact Nat.ne_of_gt bl.2.2.2.2.2.2.2.2.1 | exact Nat.ne_of_lt bl.1 | exact Nat.ne_of_lt bl.2.1 | exact Nat.ne_of_lt bl.2.2.1 | exact Nat.ne_of_lt bl.2.2.2.1 | exact Nat.ne_of_lt bl.2.2.2.2.1 | exact Nat.ne_of_lt bl.2.2.2.2.2.1 | exact Nat.ne_of_lt bl.2.2.2.2.2.2.1 | exact Nat.ne_of_lt bl.2.2.2.2.2.2.2.1 | exact Nat.ne_of_lt bl.2.2.2.2.2.2.2.2.1 | omega)), by ((show @Ne Nat _ _; first | exact cne b3 4 rfl | exact cne b3 3 rfl | exact cne b3 2 rfl | exact cne b3 1 rfl | exact cne b4 4 rfl | exact cne b4 3 rfl | exact cne b4 2 rfl | exact cne b4 1 rfl | exact Nat.ne_of_lt b2 | exact Nat.ne_of_gt b2 | exact Nat.ne_of_gt bI | exact Nat.ne_of_lt bI | exact Nat.ne_of_lt (Nat.lt_trans b2 bI) | exact Nat.ne_of_gt (Nat.lt_trans b2 bI) | exact Nat.ne_of_gt bl.1 | exact Nat.ne_of_gt bl.2.1 | exact Nat.ne_of_gt bl.2.2.1 | exact Nat.ne_of_gt bl.2.2.2.1 | exact Nat.ne_of_gt bl.2.2.2.2.1 | exact Nat.ne_of_gt bl.2.2.2.2.2.1 | exact Nat.ne_of_gt bl.2.2.2.2.2.2.1 | exact Nat.ne_of_gt bl.2.2.2.2.2.2.2.1 | exact Nat.ne_of_gt bl.2.2.2.2.2.2.2.2.1 | exact Nat.ne_of_lt bl.1 | exact Nat.ne_of_lt bl.2.1 | exact Nat.ne_of_lt bl.2.2.1 | exact Nat.ne_of_lt bl.2.2.2.1 | exact Nat.ne_of_lt bl.2.2.2.2.1 | exact Nat.ne_of_lt bl.2.2.2.2.2.1 | exact Nat.ne_of_lt bl.2.2.2.2.2.2.1 | exact Nat.ne_of_lt bl.2.2.2.2.2.2.2.1 | exact Nat.ne_of_lt bl.2.2.2.2.2.2.2.2.1 | omega))⟩, bX⟩⟩
  · rintro B h tk m' n' F N hp4_7
    refine hideL ?_; intro gg4
    obtain ⟨kk, wy, bg, lt, vo, no, vi, ni, Xs, rfl, rfl, bo, bi, bX, bI⟩ := hp4_7
    k_unfold
    replace F : Fr base L h _ := F
    replace N : News base L h _ := N
    refine ret _ _ kk wy bg lt ((fi, PySem.W.listOf vi ni) :: (fo, PySem.W.listOf vo no) :: Xs) ⟨F, ⟨o1, o2, o3, o4, d1, d2, d3, d4, N⟩, ?_⟩ ?_ ?_
    · refine isL_cons (isL_cons fun q hq => ?_)
      rcases List.mem_append.mp hq with hq | hq
      · exact (bX q hq).1
      · exact hl q (.tail _ (.tail _ hq))
    · exact bears_l (.tail _ (.head _)) (BearsL.mono (fun q hq => .tail _ (.tail _ (List.mem_append_left _ hq))) _ _ bo)
    · exact bears_l (.head _) (BearsL.mono (fun q hq => .tail _ (.tail _ (List.mem_append_left _ hq))) _ _ bi)
end TS5
section TS13
open PySem PySem.W PyProof.Rows PySem.Calls
set_option maxHeartbeats 8000000

noncomputable def folN (ns : List Int) (k : Nat) : Str := Str.ofString "/" ++ Txt.join (Str.ofString "/") (wayK ns k)
theorem folN_sm (ns : List Int) (k : Nat) : (folN ns k).length < 900 := by
  have h1 := join_small (wayK ns k) (fun x hx => (wayK_good ns k x hx).sm) (by have := wayK_len ns k; (first | exact (ch1 0 3 0 20 this (Eq.refl true)) | omega))
  unfold folN
  rw [S_len, S_append, List.length_append, ← S_len, ← S_len]
  have : (Str.ofString "/").length = 1 := by decide +kernel
  (first | exact (ch3 0 0 1 0 1 0 0 0 hC hCD z (Eq.refl true)) | exact (ch2 1 0 0 0 1 0 hlt (Nat.le_of_eq this.symm) (Eq.refl true)) | exact (ch3 821 0 0 0 1 0 2 0 z0 hC hCD (Eq.refl true)) | exact (And.intro (lin0 1 [_] (.k 5) (.a (.v 0) (.a (.a (.a (.a (.a (.k 0) (.k 1)) (.k 1)) (.k 1)) (.k 1)) (.k 1))) rfl (Eq.refl true)) (lin1 1 [_] 0 (.a (.v 0) (.a (.a (.a (.a (.a (.k 0) (.k 1)) (.k 1)) (.k 1)) (.k 1)) (.k 1))) (.k 11) 1 (.v 0) (.k 6) (Nat.min_le_left _ _) rfl (Eq.refl true))) | exact (lin1 1 [_] 0 (.a (.a (.a (.k 0) (.k 1)) (.v 0)) (.k 1)) (.k 1000) 1 (.v 0) (.k 200) this rfl (Eq.refl true)) | exact (Nat.le_antisymm (lin1 2 [_, _] 0 (.v 0) (.v 1) 1 (.v 0) (.v 1) hc3 rfl (Eq.refl true)) (lin1 2 [_, _] 0 (.v 0) (.v 1) 1 (.v 0) (.v 1) this rfl (Eq.refl true))) | exact (lin2 2 [_, _] 0 (.a (.a (.v 0) (.v 1)) (.k 1)) (.k 900) 1 (.v 1) (.k 200) 1 (.v 0) (.k 1) h1 (Nat.le_of_eq this) rfl (Eq.refl true)) | exact (ch4 0 0 0 0 1 11 1000 0 0 0 (Nat.le_of_eq h1) h2 zi h3 (Eq.refl true)) | exact (ch4 0 0 0 0 1 11 1000 0 0 0 (Nat.le_of_eq h1) h2 zi z1000 (Eq.refl true)) | omega)
theorem law_s13 {w : World} {A : Around} {s : Shared} {p : Program} {loose : List Str} {mean : ExcName → Option Value} {mg mb : Str → Option Value} {base h : Heap} {tk : Nat} {L fa : Addr} {cd : Value}
    (X : (Mine.top.heap_1_39 w.params).In base) (T : Top p loose mean mg mb base) (hroom : A.depth + 100 < recursionLimit) (hh : A.handled = none) (hun : A.units + 100 < cLine)
    {n : LN} {cp ch cr cf : Option Value} {W : List (Addr × Obj)} {tl cl fo : Addr} {nt : Nat} {ns : List Int} {ks fs : List Nat} {vs : Array Value} {ts : List PT} {W0 : List (Addr × Obj)}
    (hfo : n.folders = some (.ref fo)) (hfb : Bears W0 (.l (ks.map (folT ns))) (.ref fo)) (hkl : ks.length ≤ 11) (hkk : ∀ k ∈ ks, k < 11)
    (hwide : n.wide = some (.ref cl)) (hcb : Bears W0 (.l (fs.map fun k => .l [.s (filN ns k), .s (letK k)])) (.ref cl)) (hfl : fs.length ≤ 11) (hff : ∀ k ∈ fs, k < 11) (hnd : fs.Nodup)
    (htold : n.told = some (.ref tl)) (hW : W = (tl, PySem.W.listOf vs nt) :: W0) (hvb : BearsL W0 ts vs.toList) (hvz : vs.size ≤ 50) (hap : ∀ p ∈ W0, @Ne Nat p.1 tl) (hL : @LT.lt Nat _ (L + 4) tl)
    (hnp : ∀ k, k < 11 → NpOk w base A.depth (folP ns k) (folN ns k) s)
    (St : LSt base L h n cp ch cr cf W)
    {Q : Flow → Shared → Prop} (ret : ∀ h' tk' rv fv vs' nt', LSt base L h' n cp ch rv fv ((tl, PySem.W.listOf vs' nt') :: W0) → vs'.size = vs.size + ks.length → BearsL W0 (ts ++ ks.map fun k => .s (Txt.join (Str.ofString "") (fs.map fun j => dg (Txt.startswith (filN ns j) (folN ns k ++ Str.ofString "/"))))) vs'.toList → Q .next { s with heap := h', toks := tk' }) :
    wpAny (model PySem.Challenge.rw_aa0007_01.row.prog w) A (exec (lawSt 13) (lawEnv L fa cd)) Q noE { s with heap := h, toks := tk } := by
  (obtain ⟨ah, ad, af, ag, au⟩ := A; obtain rfl : ah = none := hh; dsimp only at hroom hun; obtain ⟨F, ⟨o1, o2, o3, o4, d1, d2, d3, d4, N⟩, hl⟩ := St)
  refine hideL ?_; intro gg1
  obtain ⟨script, numbers, folders, files, k, way, begn, letter, near, seen, word, close, plain, wide, told, due⟩ := n
  k_unfold
  (try dsimp only at ret)
  obtain rfl : folders = _ := hfo
  obtain rfl : wide = _ := hwide
  obtain rfl : told = _ := htold
  subst hW
  (refine' st_as ?e1 ?e2 ?_; (case e1 => (conv => lhs; whnf)); (case e2 => (conv => lhs; unfold lawEnv; arg 2; whnf)); intro env' A' gg dd oo; revert X; k_fill; intro X)
  have z1000 : (1000 : Nat) ≤ sizeLine := by decide
  refine hideL ?_; intro gg2
  obtain ⟨its, nf, hmc, hbc⟩ := bears_ref hcb
  k_unfold
  have hzf : its.size = fs.length := by rw [← Array.length_toList, bearsL_len hbc, List.length_map]
  refine hideL ?_; intro gg3
  obtain ⟨ifo, nfo, hmf, hbf⟩ := bears_ref hfb
  k_unfold
  have hz2 : ifo.size = ks.length := by rw [← Array.length_toList, bearsL_len hbf, List.length_map]
  refine for_list3 (hs := by intro _; rfl) (items := ifo) (P := P13 fo tl L o1 o2 ({ script := script, numbers := numbers, folders := some (.ref fo), files := files, k := k, way := way, begn := begn, letter := letter, near := near, seen := seen, word := word, close := close, plain := plain, wide := some (.ref cl), told := some (.ref tl), due := due }) vs.size ts ks (fun k => PT.s (Txt.join (Str.ofString "") (fs.map fun j => dg (Txt.startswith (filN ns j) (folN ns k ++ Str.ofString "/"))))) W0)
    (h₀ := base) rfl ?_ ?_ ?_ ?_
  · rintro l B i m' n' h hp4_6 F N
    refine hideL ?_; intro gg4
    obtain ⟨rfl, rv, fv, o3', o4', vt, nt, rfl, rfl, _⟩ := hp4_6
    k_unfold
    exact ⟨_, (N (l, { cls := .type "list", data := .seq ifo nfo }) (by repeat' first | exact List.Mem.head _ | exact hmf | exact List.mem_append_right _ hmf | refine' List.Mem.tail _ ?_)).1, rfl, _, rfl⟩
  · ((try k_extra "rf"); (repeat' (first | (k_extra "w1") | (k_end; (k_extra "lEx"); (k_extra "vn")) | (k_extra "rq") | (k_extra "wo"))))
    rename News _ _ _ _ => N
    rename Fr _ _ _ _ => F
    exact ⟨_, _, _, _, _, rfl, rfl, F, N, rfl, cr, cf, o3, o4, vs, nt, rfl, rfl, d3, d4, rfl, by rw [List.take_zero, List.map_nil, List.append_nil]; exact hvb, Heap.lt_size (N _ (.tail _ (.tail _ (.tail _ (.tail _ (.head _)))))).1⟩
  · rintro l i v m₁ n₁ h tk I oI hv hp5_10 hne F N
    refine hideL ?_; intro gg5
    obtain ⟨rfl, rv, fv, o3', o4i, vt, nt, rfl, rfl, hd3, hd4i, hvt, hb, htI⟩ := hp5_10
    k_unfold
    replace F : Fr base L h _ := F
    replace N : News base L h _ := N
    obtain ⟨tr, htr, hbv⟩ := bearsL_get hbf i v (by rw [Array.getElem?_toList]; exact hv)
    refine hideL ?_; intro gg6
    obtain ⟨k0, hk0, rfl⟩ : ∃ k0, ks[i]? = some k0 ∧ tr = folT ns k0 := map_get htr
    k_unfold
    have hkm : k0 < 11 := hkk k0 (List.mem_of_getElem? hk0)
    have hik : i < ks.length := (List.getElem?_eq_some_iff.mp hk0).1
    refine hideL ?_; intro gg7
    obtain ⟨rr, vf, nv, rfl, hmr, hbr⟩ := bears_of_l hbv
    obtain ⟨tp, hvf1⟩ := bearsL_str hbr 1 (x := folP ns k0) rfl
    k_unfold
    refine st_folder (pre := [_]) F N hd4i (List.forall_mem_cons.mpr ⟨.inr (by show @LT.lt Nat _ (L + 4) I; (first | exact (ch2 5 0 1 0 5 0 hL htI (Eq.refl true)) | omega)), List.forall_mem_nil _⟩) (isL_cons (fun p hp => hl p (.tail _ hp))) ?_
    intro h0 o4' F0 N0 hd4
    dsimp only [List.cons_append, List.nil_append] at N0
    clear F N
    (try dsimp only)
    ((try k_extra "rf"); (repeat' (first | (k_extra "wb") | ((k_extra "lS"); (k_extra "wo")))))
    rename News _ _ _ _ => N
    rename Fr _ _ _ _ => F
    refine item_list (hs := by with_unfolding_all rfl) (⟨_, (N (rr, { cls := .type "list", data := .seq vf nv }) (by repeat' first | exact List.Mem.head _ | exact hmr | exact List.mem_append_right _ hmr | refine' List.Mem.tail _ ?_)).1, rfl, _, rfl⟩ : Heap.IsList _ rr vf) (by first | with_reducible assumption | decide | exact Nat.le_trans (by with_reducible assumption) (Nat.le_of_ble_eq_true rfl) | omega) (by first | with_reducible assumption | decide | exact Nat.le_trans (by with_reducible assumption) (Nat.le_of_ble_eq_true rfl) | omega) hvf1 ?_
    (try dsimp only)
    ((try k_extra "rf"); (repeat' (first | (k_extra "wb") | ((k_extra "lC"); (k_extra "wo")))))
    rename News _ _ _ _ => N
    rename Fr _ _ _ _ => F
    rename (@LT.lt Nat _ I _ ∧ _) => bw
    k_dflt (refine' call_cls F X N ?k4 ?k5 ?k6 ?_; (case k4 => k_is); (case k5 => k_is); (case k6 => k_is))
    intro q dx h1 F1 N1 l1 l2
    have hLw := (N1 _ (.tail _ (.tail _ (.head _)))).1
    refine ct_iinit (h₀ := base) X T F1.keep (by show ad + 1 + 40 < recursionLimit; first | exact room hroom rfl | exact room2 hroom rfl | exact room3 hroom rfl | omega) rfl _ (folN ns k0) _ q dx _ (N1 _ (.head _)).1 (N1 _ (.tail _ (.head _))).1 hLw l2 (l1 _ (.head _)) (N1 _ (.head _)).2.2 (N1 _ (.tail _ (.head _))).2.2 (N1 _ (.tail _ (.tail _ (.head _)))).2.2 ?_ ?_
    · intro A' hx tkx Q' e1 e2 e3 e4
      have e2' : A'.depth ≤ ad + 1 + 10 := e2
      exact hnp k0 hkm A' hx tkx Q' tp e1 (by show A'.depth ≤ ad + 20; (first | exact (ch1 0 11 0 20 e2' (Eq.refl true)) | omega)) e3 e4
    intro h2 tk2 Sx Ld Di ui kp IG IA n1 n2 n3
    refine hideL ?_; intro gg8
    obtain ⟨a1, a2, ⟨a3, a4, a5⟩, ⟨a6, a7, a8, a9⟩⟩ := IA
    obtain ⟨w1, w2, w3, hdx⟩ := IG.hdx
    obtain ⟨led, hS⟩ := IG.hS
    obtain ⟨tD, hLd⟩ := IG.hL
    obtain ⟨oD, hD, hI⟩ := IG.hD
    k_unfold
    have hds := IG.hds
    have b1 : @LT.lt Nat _ (L + 1 + 1 + 1 + 1) dx := l1 (L + 1 + 1 + 1 + 1, o4') (by k_mem)
    have oldA := fst_lt l1
    have ap : ∀ p : Addr × Obj, p ∈ _ → p.1 ∉ [q, dx] := fun p hp => by
      have h1 := l1 p hp
      have h1 : @LT.lt Nat _ p.1 dx := h1
      have h2 : @LT.lt Nat _ dx q := l2
      simp only [List.mem_cons, List.not_mem_nil, or_false, not_or]
      exact ⟨Nat.ne_of_lt (Nat.lt_trans h1 h2), Nat.ne_of_lt h1⟩
    have F2 : Fr base L h2 _ := fr_kept F1 kp (List.forall_mem_cons.mpr ⟨(N1 _ (.head _)).2, List.forall_mem_cons.mpr ⟨(N1 _ (.tail _ (.head _))).2, List.forall_mem_nil _⟩⟩)
    have N2 : News base L h2 ((Di, oD) :: (Ld, LCg.lst [.str (folN ns k0) tD]) :: (Sx, setO led) :: (q, instObj 954 dx) :: (dx, dictOf (igD w w1 w2 w3 Sx Ld Di) 3) :: _) := news_fresh F1 n3 hD (news_fresh F1 n2 hLd (news_fresh F1 n1 hS (news_get N1 (.head _) IG.hq (news_get N1 (.tail _ (.head _)) hdx (news_apart kp (news_tail (news_tail N1)) ap)))))
    dsimp only at n1 n2 n3
    have htl := (N1 (tl, PySem.W.listOf vt nt) (by k_mem)).1
    have eLd : @Ne Nat Ld tl := fun z => by have z : Ld = tl := z; rw [z, htl] at n2; cases n2
    have edx : @LT.lt Nat _ tl dx := l1 (tl, PySem.W.listOf vt nt) (by k_mem)
    clear F N F1 N1 n1 n2 n3 htl
    (try dsimp only [InitBack])
    (try refine ⟨rfl, ?_⟩)
    (try dsimp only)
    (try refine handed_on rfl ?_)
    (try dsimp only)
    have hd2 : ∀ d, NoC L (Di, d) := fun d => .inr (by show @LT.lt Nat _ (L + 4) Di; (first | exact (ch2 5 0 1 0 5 0 b1 a9 (Eq.refl true)) | omega))
    refine st_reader (pre := [_, _, _, _, _, _, _]) F2 N2 hd3 ?_ ?_ ?_
    · refine List.forall_mem_cons.mpr ⟨.inr (by show @LT.lt Nat _ (L + 4) Di; (first | exact (ch2 5 0 1 0 5 0 b1 a9 (Eq.refl true)) | omega)), List.forall_mem_cons.mpr ⟨.inl (fun v z => by cases z), List.forall_mem_cons.mpr ⟨.inl (fun v z => by cases z), List.forall_mem_cons.mpr ⟨.inl (fun v z => by cases z), List.forall_mem_cons.mpr ⟨.inl (fun v z => by cases z), List.forall_mem_cons.mpr ⟨.inl (fun v z => by cases z), List.forall_mem_cons.mpr ⟨.inr (by show @LT.lt Nat _ (L + 4) I; (first | exact (ch2 5 0 1 0 5 0 hL htI (Eq.refl true)) | omega)), List.forall_mem_nil _⟩⟩⟩⟩⟩⟩⟩
    · exact isL_cons (fun p hp => hl p (.tail _ hp))
    intro h3 o3r F3 N3 d3r
    dsimp only [List.cons_append, List.nil_append] at N3
    clear F2 N2 hd2
    have ap2 := apart_di N3 (Nat.ne_of_lt a6) (Nat.ne_of_lt a7) (Nat.ne_of_lt a8) (Nat.ne_of_lt a9) oldA a9
    (try dsimp only)
    ((try k_extra "rf"); (repeat' (first | (k_extra "v0") | (k_extra "wn") | ((k_extra "ge"); (k_extra "lL"); (k_extra "ve")) | ((k_extra "gx"); (k_extra "vx")) | (k_extra "rq") | ((k_extra "lL"); (k_extra "wo")))))
    rename News _ _ _ _ => N
    rename Fr _ _ _ _ => F
    refine LCg.ListComp_U (F₀ := F) (by with_unfolding_all rfl) (by decide) (by rfl) (by decide) (by rfl) ?_
    ((try k_extra "rf"); (repeat' (first | (k_extra "wb") | (k_extra "wo"))))
    rename News _ _ _ _ => N
    rename Fr _ _ _ _ => F
    refine LCg.CompSrc.ledger (its := its) (k := nf) rfl F N (by repeat' first | exact List.Mem.head _ | exact hmc | exact List.mem_append_right _ hmc | refine' List.Mem.tail _ ?_) (by rw [hzf]; exact Nat.le_trans hfl (by decide)) fun g => ?_
    refine comp_inv (n := its.size) (DigI w fs (fun j => dg (Txt.startswith (filN ns j) ((folN ns k0) ++ Str.ofString "/"))) _ Di) ?_ ?_ its.size 0 [] _ (Nat.zero_add _) ⟨[], oD, _, rfl, rfl, rfl, hI, fresh_zero fs _⟩
    · rintro i2 v ys news I2 oI2 C oC D m₂ h tk E' hi hv hp9_15 hC hx F N off ne
      refine hideL ?_; intro gg9
      obtain ⟨lz, oE, kvs, rfl, hlz, rfl, hI2, hfr⟩ := hp9_15
      k_unfold
      obtain ⟨tr, htr, hbv⟩ := bearsL_get hbc i2 v (by rw [Array.getElem?_toList]; exact hv)
      refine hideL ?_; intro gg10
      obtain ⟨j0, hj0, rfl⟩ : ∃ j0, fs[i2]? = some j0 ∧ tr = .l [.s (filN ns j0), .s (letK j0)] := map_get htr
      k_unfold
      have hjm : j0 < 11 := hff j0 (List.mem_of_getElem? hj0)
      refine hideL ?_; intro gg11
      obtain ⟨r, vr, nv, rfl, hmr, hbr⟩ := bears_of_l hbv
      obtain ⟨t1, hv0⟩ := bearsL_str hbr 0 (x := filN ns j0) rfl
      obtain ⟨t2, hv1⟩ := bearsL_str hbr 1 (x := letK j0) rfl
      k_unfold
      ((try k_extra "rf"); (repeat' (first | (k_extra "wb") | ((k_extra "lS"); (k_extra "wo")))))
      rename News _ _ _ _ => N
      rename Fr _ _ _ _ => F
      refine item_list (hs := by with_unfolding_all rfl) (⟨_, (N (r, { cls := .type "list", data := .seq vr nv }) (by repeat' first | exact List.Mem.head _ | exact hmr | exact List.mem_append_right _ hmr | refine' List.Mem.tail _ ?_)).1, rfl, _, rfl⟩ : Heap.IsList _ r vr) (by first | with_reducible assumption | decide | exact Nat.le_trans (by with_reducible assumption) (Nat.le_of_ble_eq_true rfl) | omega) (by first | with_reducible assumption | decide | exact Nat.le_trans (by with_reducible assumption) (Nat.le_of_ble_eq_true rfl) | omega) hv0 ?_
      (try dsimp only)
      ((try k_extra "rf"); (repeat' (first | (k_extra "wb") | ((k_extra "lS"); (k_extra "wo")))))
      rename News _ _ _ _ => N
      rename Fr _ _ _ _ => F
      refine item_list (hs := by with_unfolding_all rfl) (⟨_, (N (r, { cls := .type "list", data := .seq vr nv }) (by repeat' first | exact List.Mem.head _ | exact hmr | exact List.mem_append_right _ hmr | refine' List.Mem.tail _ ?_)).1, rfl, _, rfl⟩ : Heap.IsList _ r vr) (by first | with_reducible assumption | decide | exact Nat.le_trans (by with_reducible assumption) (Nat.le_of_ble_eq_true rfl) | omega) (by first | with_reducible assumption | decide | exact Nat.le_trans (by with_reducible assumption) (Nat.le_of_ble_eq_true rfl) | omega) hv1 ?_
      (try dsimp only)
      ((try k_extra "rf"); (repeat' (first | (k_extra "wb") | ((k_extra "lC"); (k_extra "wo")))))
      rename News _ _ _ _ => N
      rename Fr _ _ _ _ => F
      have g1 := N (Di, oE) (by k_mem)
      have g2 := N (Ld, LCg.lst [.str (folN ns k0) tD]) (by k_mem)
      have g3 := N (Sx, setO led) (by k_mem)
      have g4 := N (q, instObj 954 dx) (by k_mem)
      have g5 := N (dx, dictOf (igD w w1 w2 w3 Sx Ld Di) 3) (by k_mem)
      refine wpAny_mono (ct_names (h₀ := base) X T F.keep (by show ad + 40 < recursionLimit; first | exact room hroom rfl | exact room2 hroom rfl | exact room3 hroom rfl | omega) rfl ⟨g4.1, ⟨_, _, _, g5.1⟩, ⟨_, g3.1⟩, ⟨_, g2.1⟩, ⟨_, g1.1, hI2⟩, hds⟩ ⟨a1, a2, ⟨a3, a4, a5⟩, ⟨a6, a7, a8, a9⟩⟩ g4.2.2 g5.2.2 g3.2.2 g2.2.2 g1.2.2 (filN ns j0) (letK j0) t1 t2 (by have := (mod_filN ns j0).sm; (first | exact (ch1 1 1000 1 1000 this (Eq.refl true)) | omega)) (by have := folN_sm ns k0; (first | exact (ch1 1 900 1 1000 this (Eq.refl true)) | omega)) (fresh_none hfr hj0) (by have := hfr.1; (first | exact (ch4 0 1 1 0 0 0 0 11 0 100 this hi (Nat.le_of_eq hzf) hfl (Eq.refl true)) | omega)) ?_) (fun _ _ z => z) (fun _ _ (z : False) => z.elim)
      intro h4 tk4 t4 kp4 IG4 t5
      refine hideL ?_; intro gg12
      obtain ⟨oE4, hE4, hI4⟩ := IG4.hD
      k_unfold
      have hfr4 := fresh_succ (v := .int (if Txt.startswith (filN ns j0) ((folN ns k0) ++ Str.ofString "/") = true then 1 else 0) t4) hfr hnd hj0
      clear IG4
      have om := off.mem
      have oD := om _ (.head _)
      have aI : I2 ∉ [Di] := fun z => oD.1 (List.mem_singleton.mp z).symm
      have aC : C ∉ [Di] := fun z => oD.2.1 (List.mem_singleton.mp z).symm
      have aD : D ∉ [Di] := fun z => oD.2.2 (List.mem_singleton.mp z).symm
      have F4 : Fr base L h4 _ := fr_kept F kp4 (List.forall_mem_cons.mpr ⟨g1.2, List.forall_mem_nil _⟩)
      have N4 : News base L h4 ((I2, oI2) :: (C, oC) :: (D, LCg.lst (strValues lz)) :: (Di, oE4) :: _) := List.forall_mem_cons.mpr ⟨⟨kp4 _ _ aI (N _ (.head _)).1, (N _ (.head _)).2⟩, List.forall_mem_cons.mpr ⟨⟨kp4 _ _ aC (N _ (.tail _ (.head _))).1, (N _ (.tail _ (.head _))).2⟩, List.forall_mem_cons.mpr ⟨⟨kp4 _ _ aD (N _ (.tail _ (.tail _ (.head _)))).1, (N _ (.tail _ (.tail _ (.head _)))).2⟩, List.forall_mem_cons.mpr ⟨⟨hE4, g1.2⟩, news_apart kp4 (news_tail (news_tail (news_tail (news_tail N)))) ap2⟩⟩⟩⟩
      clear F N
      generalize hbb : Txt.startswith (filN ns j0) ((folN ns k0) ++ Str.ofString "/") = bb at hfr4 hI4 ⊢
      have fin4 : ∀ tz, (strValues lz ++ [Value.str (dg bb) tz]) = strValues (lz ++ [(dg bb, tz)]) := fun tz => sv_snoc _ _ _
      have fin5 : ∀ tz, (lz ++ [(dg bb, tz)]).map (fun p : Str × Tok => p.1) = (fs.take (i2 + 1)).map (fun j => dg (Txt.startswith (filN ns j) ((folN ns k0) ++ Str.ofString "/"))) := fun tz => map_take hlz hj0 (congrArg dg hbb.symm)
      have off4 : LCg.Off3 I2 C D ((Di, oE4) :: _) := LCg.Off3.of (List.forall_mem_cons.mpr ⟨oD, fun p hp => om p (.tail _ hp)⟩)
      cases bb with
      | true =>
        ((try k_extra "rf"); (repeat' (first | (k_extra "w1") | (k_end; (k_extra "lEx"); (k_extra "vn")) | (k_extra "rq") | (k_extra "wo"))))
        rename News _ _ _ _ => N
        rename Fr _ _ _ _ => F
        exact ⟨_, _, _, rfl, F, N, off4, .inr ⟨{ cls := .type "list", data := .seq its nf }, by repeat' first | exact List.Mem.head _ | exact hmc | exact List.mem_append_right _ hmc | refine' List.Mem.tail _ ?_, rfl, _, rfl⟩, lz ++ [(dg true, _)], oE4, _, fin4 _, fin5 _, rfl, hI4, hfr4⟩
      | false =>
        ((try k_extra "rf"); (repeat' (first | (k_extra "w1") | (k_end; (k_extra "lEx"); (k_extra "vn")) | (k_extra "rq") | (k_extra "wo"))))
        rename News _ _ _ _ => N
        rename Fr _ _ _ _ => F
        exact ⟨_, _, _, rfl, F, N, off4, .inr ⟨{ cls := .type "list", data := .seq its nf }, by repeat' first | exact List.Mem.head _ | exact hmc | exact List.mem_append_right _ hmc | refine' List.Mem.tail _ ?_, rfl, _, rfl⟩, lz ++ [(dg false, _)], oE4, _, fin4 _, fin5 _, rfl, hI4, hfr4⟩
    · rintro ys news hp13_2 D3 h3 tk3 F N off
      refine hideL ?_; intro gg13
      obtain ⟨lz, oE, kvs, rfl, hlz, rfl, hI2, hfr⟩ := hp13_2
      k_unfold
      rw [List.take_of_length_le (by (first | exact (ch1 0 0 0 0 (Nat.le_of_eq hzf.symm) (Eq.refl true)) | omega))] at hlz
      clear hI2 hfr
      ((try k_extra "rf"); (repeat' (first | (k_extra "wb") | ((k_extra "lB"); (k_extra "wo")))))
      rename News _ _ _ _ => N
      rename Fr _ _ _ _ => F
      refine SC.join (N.isList (.head _)) hlz (joinOk_of_weight (wt_of (B := 1) (m := 11) (fun y (hy : y ∈ fs.map (fun j => dg (Txt.startswith (filN ns j) ((folN ns k0) ++ Str.ofString "/")))) => by obtain ⟨j, _, rfl⟩ := List.mem_map.mp hy; exact dg_small _) (by rw [List.length_map]; exact hfl) rfl) (by decide)) ?_
      intro tj kj
      (try dsimp only)
      have eD3 : @Ne Nat D3 tl := fun z => off.2.2.2.2.2.2.2.2.2.2.2.1 z.symm
      ((try k_extra "rf"); (repeat' (first | (k_extra "wb") | ((k_extra "lB"); (k_extra "wo")))))
      rename News _ _ _ _ => N
      rename Fr _ _ _ _ => F
      refine append_led (pre := [_, _, _, _, _, _, _, _, _, _, _, _]) F N ?_ hap ?_ ?_
      · exact fmc (eD3) (fmc (gt2 edx a9) (fmc (eLd) (fmc (gt3 edx a1 a2) (fmc (gt2 edx a1) (fmc (Nat.ne_of_gt edx) (fmc (gt2 htI bw.1) (fmc (Nat.ne_of_gt htI) (fmc (cne hL 4 rfl) (fmc (cne hL 3 rfl) (fmc (cne hL 2 rfl) (fmc (cne hL 1 rfl) (List.forall_mem_nil _))))))))))))
      · rw [hvt]; (first | exact (lin4 4 [_, _, _, _] 0 (.a (.v 0) (.v 1)) (.v 2) 1 (.v 3) (.k 11) 1 (.v 0) (.k 50) 1 (.k 1000) (.v 2) 1 (.a (.v 1) (.k 1)) (.v 3) hkl hvz z1000 hik rfl (Eq.refl true)) | omega)
      intro h6 F6 N6
      dsimp only [List.cons_append, List.nil_append] at N6
      clear F N
      ((try k_extra "rf"); (repeat' (first | (k_extra "w1") | (k_end; (k_extra "lAn"); (k_extra "vn")) | (k_extra "rq") | (k_extra "wo"))))
      ((try dsimp only); rename News _ _ _ _ => N; rename Fr _ _ _ _ => F; (try dsimp only at F N))
      refine ⟨.inl rfl, _, _, _, (L + 1 + 1 + 1 + 1, o4') :: (L + 1 + 1 + 1, o3r) :: (L + 1 + 1, o2) :: (L + 1, o1) :: (tl, PySem.W.listOf (vt.push (.str (Txt.join (Str.ofString "") (fs.map fun j => dg (Txt.startswith (filN ns j) (folN ns k0 ++ Str.ofString "/")))) tj)) (nt + 1)) :: W0, rfl, F, ?_, ?_, by trivial, _, _, o3r, o4', _, nt + 1, rfl, rfl, d3r, hd4, by rw [Array.size_push, hvt]; (first | exact (Nat.le_antisymm (lin0 2 [_, _] (.a (.a (.v 0) (.v 1)) (.k 1)) (.a (.v 0) (.a (.v 1) (.k 1))) rfl (Eq.refl true)) (lin0 2 [_, _] (.a (.v 0) (.a (.v 1) (.k 1))) (.a (.a (.v 0) (.v 1)) (.k 1)) rfl (Eq.refl true))) | omega), ?_, htI⟩
      · repeat' first | refine nw N (by k_mem) ?_ | exact fun p hp => N p (by repeat' first | exact hp | refine' List.Mem.tail _ ?_)
      · repeat' first | refine fmn hne (by k_mem) ?_ | refine fmc (hne (L + 1 + 1 + 1 + 1, o4i) (by k_mem)) ?_ | refine fmc (hne (L + 1 + 1 + 1, o3') (by k_mem)) ?_ | refine fmc (Nat.ne_of_lt htI) ?_ | refine fmc (Nat.ne_of_gt bw.1) ?_ | refine fmc (by show @Ne Nat _ _; first | with_reducible assumption | exact Nat.ne_of_gt htI | exact Nat.ne_of_lt htI | exact Nat.ne_of_gt (by with_reducible assumption) | exact Nat.ne_of_lt (by with_reducible assumption) | exact Nat.ne_of_gt bn.1 | exact Nat.ne_of_gt bn.2.1 | exact Nat.ne_of_gt bn.2.2.1 | exact Nat.ne_of_gt bn.2.2.2.1 | exact Nat.ne_of_gt bn.2.2.2.2.1 | exact Nat.ne_of_gt bn.2.2.2.2.2.1 | exact Nat.ne_of_gt bn.2.2.2.2.2.2.1 | exact Nat.ne_of_gt bn.2.2.2.2.2.2.2.1 | exact Nat.ne_of_gt bn.2.2.2.2.2.2.2.2.1 | exact Nat.ne_of_gt bn.2.2.2.2.2.2.2.2.2.1 | exact Nat.ne_of_gt bn.2.2.2.2.2.2.2.2.2.2.1 | exact Nat.ne_of_gt bn.2.2.2.2.2.2.2.2.2.2.2.1 | exact Nat.ne_of_gt bn.2.2.2.2.2.2.2.2.2.2.2.2.1 | exact Nat.ne_of_gt bn.2.2.2.2.2.2.2.2.2.2.2.2.2.1 | omega) ?_ | exact fun p hp => hne p (by repeat' first | exact hp | refine' List.Mem.tail _ ?_)
      · exact bearsL_take hk0 bears_s hb
  · rintro l B h tk m' n' F N hp14_8
    refine hideL ?_; intro gg14
    obtain ⟨rfl, rv, fv, o3', o4', vt, nt, rfl, rfl, hd3, hd4, hvt, hb, htI⟩ := hp14_8
    k_unfold
    replace F : Fr base L h _ := F
    replace N : News base L h _ := N
    rw [List.take_of_length_le (by (first | exact (ch1 0 0 0 0 (Nat.le_of_eq hz2.symm) (Eq.refl true)) | omega))] at hb
    exact ret _ _ rv fv vt nt ⟨F, ⟨o1, o2, o3', o4', d1, d2, hd3, hd4, N⟩, isL_cons fun p hp => hl p (.tail _ hp)⟩ (by rw [hvt, hz2]) hb
end TS13
section TP8
open PySem PySem.W PyProof.Rows PySem.Calls
set_option maxHeartbeats 4000000
theorem map_pre {b a : List Str} : (b.map S) <+: (a.map S) ↔ b <+: a := by
  constructor
  · rintro ⟨r, h⟩
    refine ⟨a.drop b.length, S_map_inj ?_⟩
    rw [List.map_append, List.map_drop, ← h]
    have : (b.map S ++ r).drop b.length = r := by rw [← List.length_map S (as := b), List.drop_left]
    rw [this]
  · rintro ⟨r, rfl⟩
    exact ⟨r.map S, by rw [List.map_append]⟩
theorem slash_free {l : List Str} (h : ∀ x ∈ l, 47 ∉ S x) : ∀ p ∈ l.map S, 47 ∉ p := fun p hp => by
  refine hideL ?_; intro gg1
  obtain ⟨x, hx, rfl⟩ := List.mem_map.mp hp
  k_unfold
  exact h x hx
theorem start_join {b a : List Str} (hb : b ≠ []) (ha : a ≠ []) (fb : ∀ x ∈ b, 47 ∉ S x) (fa : ∀ x ∈ a, 47 ∉ S x) :
    Txt.startswith (Txt.join (Str.ofString "/") a) (Txt.join (Str.ofString "/") b ++ Str.ofString "/") = decide (b <+: a ∧ b.length < a.length) := by
  rw [Bool.eq_iff_iff, startswith_S, S_append, S_slash, tjoin, tjoin, jl_prefix (by simpa using hb) (by simpa using ha) (slash_free fb) (slash_free fa), decide_eq_true_iff, map_pre, List.length_map, List.length_map]
theorem dots_fr : 47 ∉ S (Str.ofString "..") := by decide +kernel
theorem rel_fr {P D : List Str} (h : ∀ x ∈ D, 47 ∉ S x) : ∀ x ∈ rel P D, 47 ∉ S x := fun x hx => by
  rcases List.mem_append.mp hx with h1 | h1
  · rw [List.eq_of_mem_replicate h1]; exact dots_fr
  · exact h x (List.mem_of_mem_drop h1)
theorem one_dot : Str.ofString "." = Txt.join (Str.ofString "/") [Str.ofString "."] := by decide +kernel
theorem dot_fr : 47 ∉ S (Str.ofString ".") := by decide +kernel
theorem dot_dots : Str.ofString "." ≠ Str.ofString ".." := by decide +kernel
theorem rel_dot {P D : List Str} (h : ∀ x ∈ D, x ≠ Str.ofString ".") : Str.ofString "." ∉ rel P D := fun hx => by
  rcases List.mem_append.mp hx with h1 | h1
  · exact dot_dots (List.eq_of_mem_replicate h1)
  · exact h _ (List.mem_of_mem_drop h1) rfl
theorem fwK_ne (ns : List Int) (k : Nat) : rel (placeF ns) (fwK ns k) ≠ [] := by
  obtain ⟨pre, e⟩ := rel_last ns k
  rw [e]; simp
theorem dig_near (ns : List Int) (k j : Nat) : dg (Txt.startswith (filW ns j) (folW ns k ++ Str.ofString "/")) = nearF (placeF ns) (wayK ns k) (fwK ns j) := by
  have gW := fwK_good ns j
  have gD := wayK_good ns k
  have e := near_iff (P := placeF ns) (D := wayK ns k) (W := fwK ns j) (W' := wayK ns j) (z := fnK j) rfl (fn_not ns j _) (fn_not ns j _) (fun h => (gD _ h).d2 rfl) (fun h => (gW _ h).d2 rfl)
  rw [← e]
  congr 1
  show Txt.startswith (relF (placeF ns) (fwK ns j)) (relF (placeF ns) (wayK ns k) ++ Str.ofString "/") = decide (_ ∧ rel (placeF ns) (wayK ns k) <+: rel (placeF ns) (fwK ns j) ∧ (rel (placeF ns) (wayK ns k)).length < (rel (placeF ns) (fwK ns j)).length)
  rw [relF_is, relF_is, if_neg (fwK_ne ns j)]
  have fW := rel_fr (P := placeF ns) (fun x hx => (gW x hx).fr)
  by_cases h0 : rel (placeF ns) (wayK ns k) = []
  · rw [if_pos h0, one_dot, start_join (by simp) (fwK_ne ns j) (fun x hx => by rw [List.mem_singleton.mp hx]; exact dot_fr) fW]
    rw [Bool.eq_iff_iff, decide_eq_true_iff, decide_eq_true_iff]
    constructor
    · rintro ⟨⟨r, h⟩, _⟩
      exact absurd (by rw [← h]; exact .head _) (rel_dot (P := placeF ns) (fun x hx => (gW x hx).d1))
    · rintro ⟨h, _⟩; exact absurd h0 h
  · rw [if_neg h0, start_join h0 (fwK_ne ns j) (rel_fr (fun x hx => (gD x hx).fr)) fW]
    rw [Bool.eq_iff_iff, decide_eq_true_iff, decide_eq_true_iff]
    exact ⟨fun h => ⟨h0, h⟩, fun h => h.2⟩
theorem dig_far (ns : List Int) (k j : Nat) : dg (Txt.startswith (filN ns j) (folN ns k ++ Str.ofString "/")) = farF (wayK ns k) (fwK ns j) := by
  have gW := fwK_good ns j
  have gD := wayK_good ns k
  have hz : fnK j ∉ wayK ns k := fn_not ns j _
  have hn : fwK ns j ≠ [] := by unfold fwK; simp
  have hJ : ∀ c r, S (Txt.join (Str.ofString "/") (fwK ns j)) = c :: r → c ≠ 47 := by
    rw [tjoin]
    exact jl_first _ (fun p hp => by obtain ⟨x, hx, rfl⟩ := List.mem_map.mp hp; exact S_ne (gW x hx).ne) (slash_free fun x hx => (gW x hx).fr)
  unfold farF filN folN
  by_cases h0 : wayK ns k = []
  · rw [if_neg (fun h => h.1 h0)]
    have : Txt.startswith (Str.ofString "/" ++ Txt.join (Str.ofString "/") (fwK ns j)) (Str.ofString "/" ++ Txt.join (Str.ofString "/") (wayK ns k) ++ Str.ofString "/") = false := by
      rw [Bool.eq_false_iff]
      intro h
      rw [startswith_S, h0, S_append, S_append, S_append, S_slash, tjoin] at h
      obtain ⟨r, h⟩ := h
      simp only [List.map_nil, jl, List.append_nil, List.cons_append, List.nil_append, List.cons.injEq, true_and] at h
      exact hJ 47 r h.symm rfl
    rw [this]; rfl
  · have : Txt.startswith (Str.ofString "/" ++ Txt.join (Str.ofString "/") (fwK ns j)) (Str.ofString "/" ++ Txt.join (Str.ofString "/") (wayK ns k) ++ Str.ofString "/") = decide (wayK ns k ≠ [] ∧ (fwK ns j).take (wayK ns k).length = wayK ns k) := by
      have e := start_join h0 hn (fun x hx => (gD x hx).fr) (fun x hx => (gW x hx).fr)
      rw [Bool.eq_iff_iff, startswith_S, decide_eq_true_iff] at e
      rw [Bool.eq_iff_iff, startswith_S, decide_eq_true_iff, S_append, S_append, S_append, S_slash, List.append_assoc, List.singleton_append, List.singleton_append, List.cons_prefix_cons]
      rw [S_append, S_slash] at e
      rw [e]
      constructor
      · rintro ⟨_, h, _⟩; exact ⟨h0, (List.prefix_iff_eq_take.mp h).symm⟩
      · rintro ⟨_, h⟩
        refine ⟨rfl, List.prefix_iff_eq_take.mpr h.symm, ?_⟩
        rcases Nat.lt_or_ge (wayK ns k).length (fwK ns j).length with h' | h'
        · exact h'
        · rw [List.take_of_length_le h'] at h
          exact absurd (h ▸ (by unfold fwK; simp : fnK j ∈ fwK ns j)) hz
    rw [this]
    by_cases h3 : wayK ns k ≠ [] ∧ (fwK ns j).take (wayK ns k).length = wayK ns k
    · rw [if_pos h3, decide_eq_true h3]; rfl
    · rw [if_neg h3, decide_eq_false h3]; rfl
end TP8
section TP9
open PySem PySem.W PyProof.Rows PySem.Calls
set_option maxHeartbeats 4000000
noncomputable def relC (P D : List Str) : List Str := if rel P D = [] then [Str.ofString "."] else rel P D
theorem relC_ne (P D : List Str) : relC P D ≠ [] := by unfold relC; split <;> simp_all
theorem relF_join (P D : List Str) : relF P D = Txt.join (Str.ofString "/") (relC P D) := by
  rw [relF_is]; unfold relC
  split
  · exact one_dot
  · rfl
theorem relC_fr {P D : List Str} (h : ∀ c ∈ D, Good c) : ∀ x ∈ relC P D, 47 ∉ S x := by
  unfold relC
  split
  · intro x hx; rw [List.mem_singleton.mp hx]; exact dot_fr
  · exact rel_fr fun x hx => (h x hx).fr
theorem relC_sm {P D : List Str} (h : ∀ c ∈ D, Good c) : ∀ x ∈ relC P D, x.length ≤ 9 := by
  unfold relC
  split
  · intro x hx; rw [List.mem_singleton.mp hx]; decide +kernel
  · exact rel_sm fun x hx => (h x hx).sm
theorem relC_len {P D : List Str} : (relC P D).length ≤ P.length + D.length + 1 := by
  unfold relC
  split
  · simp
  · have := rel_len P D; (first | exact (ch1 0 0 0 1 this (Eq.refl true)) | omega)
theorem relC_nz {P D : List Str} (h : ∀ c ∈ D, Good c) : ∀ x ∈ relC P D, x.length ≠ 0 := by
  unfold relC
  split
  · intro x hx; rw [List.mem_singleton.mp hx]; decide +kernel
  · exact rel_ne fun x hx => (h x hx).ne
theorem relC_dd {P D : List Str} (h : ∀ c ∈ D, Good c) : ∀ i, (relC P D)[i]? = some (Str.ofString "..") → (relC P D).take i = List.replicate i (Str.ofString "..") := by
  unfold relC
  split
  · intro i e
    cases i with
    | zero => simp at e; exact absurd e dot_dots
    | succ i => simp at e
  · intro i e
    unfold rel at e ⊢
    by_cases hi : i < P.length - (cpre P D).length
    · rw [List.take_append_of_le_length (by rw [List.length_replicate]; (first | exact (ch1 1 0 0 0 hi (Eq.refl true)) | omega)), List.take_replicate, Nat.min_eq_left (by (first | exact (ch1 1 0 0 0 hi (Eq.refl true)) | omega))]
    · rw [List.getElem?_append_right (by rw [List.length_replicate]; (first | exact (lin1 2 [_, _] 0 (.v 0) (.v 1) 1 (.v 0) (.v 1) (Nat.not_lt.mp hi) rfl (Eq.refl true)) | omega))] at e
      exact absurd rfl (h _ (List.mem_of_mem_drop (List.mem_of_getElem? e))).d2
theorem normR_all : ∀ (l acc : List Str), (∀ x ∈ l, x.length ≠ 0 ∧ x ≠ Str.ofString ".") → l.foldl rstep acc = acc ++ l
  | [], acc, _ => by simp
  | c :: l, acc, h => by
    have hc := h c (.head _)
    rw [List.foldl_cons, rstep, if_neg (by rintro (e | e); exact hc.1 (by rw [e]; rfl); exact hc.2 e), normR_all l _ (fun x hx => h x (.tail _ hx)), List.append_assoc]; rfl
theorem npR_relC {P D : List Str} (h : ∀ c ∈ D, Good c) : npR (relC P D) = relF P D := by
  rw [relF_is]
  unfold relC npR
  split
  · rw [if_pos (by decide +kernel)]
  · rename_i hne
    have e : normR (rel P D) = rel P D := by
      unfold normR
      rw [normR_all _ [] (fun x hx => ⟨rel_ne (fun x hx => (h x hx).ne) x hx, fun z => rel_dot (P := P) (D := D) (fun x hx => (h x hx).d1) (z ▸ hx)⟩)]; rfl
    rw [e, if_neg hne]
theorem relF_first {P D : List Str} (h : ∀ c ∈ D, Good c) : (Txt.slice (relF P D) none (some 1) != Str.ofString "/") = true := by
  rw [bne_iff_ne]
  intro e
  have hj := jl_first ((relC P D).map S) (fun p hp => by obtain ⟨x, hx, rfl⟩ := List.mem_map.mp hp; exact S_ne (relC_nz h x hx)) (slash_free (relC_fr h))
  have hs : S (relF P D) = jl 47 ((relC P D).map S) := by rw [relF_join, tjoin]
  have hl : 1 ≤ (relF P D).length := by
    rw [S_len, hs]
    cases q : relC P D with
    | nil => exact absurd q (relC_ne P D)
    | cons a r =>
      have := relC_nz (P := P) h a (by rw [q]; exact .head _)
      rw [List.map_cons, jl_cons, List.length_append, ← S_len]; (first | exact (lin1 2 [_, _] 0 (.k 1) (.a (.v 0) (.v 1)) 1 (.k 1) (.v 0) (Nat.pos_of_ne_zero this) rfl (Eq.refl true)) | omega)
  have h1 := slice_to (relF P D) 1 hl
  have e' : Txt.slice (relF P D) none (some ((1 : Nat) : Int)) = Str.ofString "/" := e
  rw [e', S_slash] at h1
  cases q : S (relF P D) with
  | nil => rw [q] at h1; cases h1
  | cons c r =>
    rw [q] at h1
    have : 47 = c := by simpa using h1
    exact hj c r (by rw [← hs, q]) this.symm
theorem np_rel {w : World} {s : Shared} {p : Program} {loose : List Str} {mean : ExcName → Option Value} {mg mb : Str → Option Value} {base : Heap} (X : (Mine.top.heap_1_39 w.params).In base) (T : Top p loose mean mg mb base) {d : Nat} (hd' : d + 100 < recursionLimit) (ns : List Int) (k : Nat) : NpOk w base d (folW ns k) (folW ns k) s := by
  intro A' h tk Q' t e1 e2 e3 e4
  have g := wayK_good ns k
  have hok := folW_ok ns k
  have hl := relC_len (P := placeF ns) (D := wayK ns k)
  have h3 := placeF_len ns
  have h4 := wayK_len ns k
  refine ct_np_rel (X.keeps e3) (T.keeps e3) (by (first | exact (ch2 0 20 101 0 21 0 e2 hd' (Eq.refl true)) | omega)) e1 (folW ns k) t (by have := hok.sm; (first | exact (ch1 0 100 1 1000 this (Eq.refl true)) | omega)) hok.ne (relF_first g) (cs := relC (placeF ns) (wayK ns k)) ?_ (relC_dd g) (by (first | exact (lin3 3 [_, _, _] 0 (.a (.v 0) (.k 1)) (.k 100) 1 (.v 0) (.a (.a (.v 1) (.v 2)) (.k 1)) 1 (.v 1) (.k 3) 1 (.v 2) (.k 3) hl h3 h4 rfl (Eq.refl true)) | omega)) (fun c hc => by have := relC_sm g c hc; (first | exact (ch1 0 9 0 1000 this (Eq.refl true)) | omega)) (fun h' tk' t' st => ?_)
  · show Txt.split (relF _ _) _ = _
    rw [relF_join, split_join _ (relC_ne _ _) (relC_fr g)]
  · rw [npR_relC g]; exact e4 h' tk' t' st
theorem np_abs {w : World} {s : Shared} {p : Program} {loose : List Str} {mean : ExcName → Option Value} {mg mb : Str → Option Value} {base : Heap} (X : (Mine.top.heap_1_39 w.params).In base) (T : Top p loose mean mg mb base) {d : Nat} (hd' : d + 100 < recursionLimit) (ns : List Int) (k : Nat) : NpOk w base d (folP ns k) (folN ns k) s := by
  intro A' h tk Q' t e1 e2 e3 e4
  refine hideL ?_; intro gg1
  obtain ⟨cs, hpo, hnc⟩ := fol_ok ns k
  k_unfold
  refine ct_np_abs (X.keeps e3) (T.keeps e3) (by (first | exact (ch2 0 20 101 0 21 0 e2 hd' (Eq.refl true)) | omega)) e1 (folP ns k) t hpo.hx hpo.hne hpo.hp1 hpo.hp2 hpo.hcs hpo.hdd hpo.hlen hpo.hcl (fun h' tk' t' st => ?_)
  rw [hnc]; exact e4 h' tk' t' st
end TP9
section TP10
open PySem PySem.W PyProof.Rows PySem.Calls
set_option maxHeartbeats 4000000
theorem numN_at {ns : List Int} {i : Nat} {v : Int} (h : (numsI ns)[i]? = some v) : numN ns i = v.toNat := by
  unfold numN
  rw [List.getD_eq_getElem?_getD, h]; rfl
theorem numsI_tail (ns : List Int) : ∃ a : List Int, numsI ns = a ++ [8, 2, 25, 3, 9] := ⟨_, rfl⟩
theorem fol_some (ns : List Int) : folL ns (numsI ns).length ≠ [] := by
  obtain ⟨a, e⟩ := numsI_tail ns
  have h : numN ns a.length = 8 := numN_at (v := 8) (by rw [e, List.getElem?_append_right (Nat.le_refl _), Nat.sub_self]; rfl)
  refine List.ne_nil_of_mem (a := a.length) (List.mem_filter.mpr ⟨List.mem_range.mpr (by rw [e]; simp), by rw [h]; rfl⟩)
theorem fil_some (ns : List Int) : filL ns (numsI ns).length ≠ [] := by
  obtain ⟨a, e⟩ := numsI_tail ns
  have h : numN ns (a.length + 2) = 25 := numN_at (v := 25) (by rw [e, List.getElem?_append_right (by (first | exact (ch0 0 2 (Eq.refl true)) | omega)), Nat.add_sub_cancel_left]; rfl)
  refine List.ne_nil_of_mem (a := a.length + 2) (List.mem_filter.mpr ⟨List.mem_range.mpr (by rw [e]; simp), by rw [h]; rfl⟩)
theorem depthL_le {d : Nat} : ∀ {ts : List PT}, (∀ t ∈ ts, t.depth ≤ d) → PT.depth.depthL ts ≤ d
  | [], _ => Nat.zero_le _
  | t :: ts, h => by
    have h1 := h t (.head _)
    have h2 := depthL_le (ts := ts) fun t ht => h t (.tail _ ht)
    exact Nat.max_le.mpr ⟨h1, h2⟩
theorem row_depth (a b : Str) : (PT.l [.s a, .s b]).depth ≤ 1 := Nat.le_refl 1
theorem l_depth {d : Nat} {ts : List PT} (h : ∀ t ∈ ts, t.depth ≤ d) : (PT.l ts).depth ≤ d + 1 := Nat.succ_le_succ (depthL_le h)
noncomputable def tree (ns : List Int) (ks fs : List Nat) : List PT :=
  ([.l (fs.map fun k => .l [.s (filW ns k), .s (letK k)]), .l (fs.map fun k => .l [.s (filN ns k), .s (letK k)])] ++ ks.map fun k => .l [.s (folW ns k), .s (Txt.join (Str.ofString "") (fs.map fun j => nearF (placeF ns) (wayK ns k) (fwK ns j)))])
    ++ ks.map fun k => .s (Txt.join (Str.ofString "") (fs.map fun j => farF (wayK ns k) (fwK ns j)))
theorem tree_depth (ns : List Int) (ks fs : List Nat) : (PT.l (tree ns ks fs)).depth ≤ 10 := by
  refine Nat.le_trans (l_depth (d := 2) fun t ht => ?_) (by (first | exact (ch0 3 10 (Eq.refl true)) | omega))
  unfold tree at ht
  rcases List.mem_append.mp ht with ht | ht
  · rcases List.mem_append.mp ht with ht | ht
    · simp only [List.mem_cons, List.not_mem_nil, or_false] at ht
      rcases ht with rfl | rfl
      · exact l_depth fun t ht => by obtain ⟨k, _, rfl⟩ := List.mem_map.mp ht; exact row_depth _ _
      · exact l_depth fun t ht => by obtain ⟨k, _, rfl⟩ := List.mem_map.mp ht; exact row_depth _ _
    · obtain ⟨k, _, rfl⟩ := List.mem_map.mp ht
      exact Nat.le_trans (row_depth _ _) (by (first | exact (ch0 1 2 (Eq.refl true)) | omega))
  · obtain ⟨k, _, rfl⟩ := List.mem_map.mp ht
    exact Nat.zero_le _
theorem tree_told (ns : List Int) (ks fs : List Nat) : tree ns ks fs =
    ([.l (fs.map fun k => .l [.s (filW ns k), .s (letK k)]), .l (fs.map fun k => .l [.s (filN ns k), .s (letK k)])] ++ ks.map fun k => .l [.s (folW ns k), .s (Txt.join (Str.ofString "") (fs.map fun j => dg (Txt.startswith (filW ns j) (folW ns k ++ Str.ofString "/"))))])
    ++ ks.map fun k => .s (Txt.join (Str.ofString "") (fs.map fun j => dg (Txt.startswith (filN ns j) (folN ns k ++ Str.ofString "/")))) := by
  unfold tree
  simp only [dig_near, dig_far]
theorem lm_start {kindOf : Str → Option NameKind} {v : Value} (hk : kindOf (Str.ofString "script") = some .local) : bindL kindOf [(Str.ofString "script", v)] (fun _ => none) = lm ⟨some v, none, none, none, none, none, none, none, none, none, none, none, none, none, none, none⟩ := by
  funext y
  simp only [bindL, if_pos hk]
  by_cases h : y = Str.ofString "script"
  · rw [if_pos h]; subst h; rfl
  · simp only [lm, if_neg h, ite_self]
end TP10
section TS0
open PySem PySem.W PyProof.Rows PySem.Calls
set_option maxHeartbeats 8000000
theorem law_s0 {w : World} {A : Around} {s : Shared} {p : Program} {loose : List Str} {mean : ExcName → Option Value} {mg mb : Str → Option Value} {base h : Heap} {tk : Nat} {L fa : Addr} {cd : Value}
    (X : (Mine.top.heap_1_39 w.params).In base) (T : Top p loose mean mg mb base) (hroom : A.depth + 100 < recursionLimit) (hh : A.handled = none) (hun : A.units + 100 < cLine)
    {n : LN} {a : Addr} {vs : List Value} {ns : List Int} (hsc : n.script = some (.ref a)) (hLs : base.IsList a vs.toArray) (hI : IntsAre vs ns) (hns : ns.length ≤ 63)
    (St : LSt base L h n none none none none [])
    {Q : Flow → Shared → Prop} (ret : ∀ h' tk' b ws, LSt base L h' { n with numbers := some (.ref b) } none none none none [(b, PySem.W.listOf ws.toArray 0)] → IntsAre ws (numsI ns) → Q .next { s with heap := h', toks := tk' }) :
    wpAny (model PySem.Challenge.rw_aa0007_01.row.prog w) A (exec (lawSt 0) (lawEnv L fa cd)) Q noE { s with heap := h, toks := tk } := by
  (refine aro hh hroom hun ?_; clear hh hroom hun; intro ad af ag au hroom hun; obtain ⟨F, ⟨o1, o2, o3, o4, d1, d2, d3, d4, N⟩, hl⟩ := St)
  refine hideL ?_; intro gg1
  obtain ⟨script, numbers, folders, files, k, way, begn, letter, near, seen, word, close, plain, wide, told, due⟩ := n
  k_unfold
  (try dsimp only at ret)
  obtain rfl : script = _ := hsc
  (refine' st_as ?e1 ?e2 ?_; (case e1 => (conv => lhs; whnf)); (case e2 => (conv => lhs; unfold lawEnv; arg 2; whnf)); intro env' A' gg dd oo; revert X; k_fill; intro X)
  ((try k_extra "rf"); (repeat' (first | (k_extra "w1") | (k_end; (k_extra "lAn"); (k_extra "vn")) | (k_extra "rq") | (k_extra "wo"))))
  ((try dsimp only); rename News _ _ _ _ => N; rename Fr _ _ _ _ => F; (try dsimp only at F N))
  rename IntsAre _ (_ ++ _) => hI2
  rw [lm_numbers] at F
  exact ret _ _ _ _ ⟨F, ⟨o1, o2, o3, o4, d1, d2, d3, d4, lst_news (pre := [_, _, _, _]) (X := [_]) (W := []) N (List.forall_mem_cons.mpr ⟨.head _, List.forall_mem_nil _⟩)⟩, isL_cons hl⟩ hI2
end TS0
section TS1
open PySem PySem.W PyProof.Rows PySem.Calls
set_option maxHeartbeats 8000000
theorem law_s1 {w : World} {A : Around} {s : Shared} {p : Program} {loose : List Str} {mean : ExcName → Option Value} {mg mb : Str → Option Value} {base h : Heap} {tk : Nat} {L fa : Addr} {cd : Value}
    (X : (Mine.top.heap_1_39 w.params).In base) (T : Top p loose mean mg mb base) (hroom : A.depth + 100 < recursionLimit) (hh : A.handled = none) (hun : A.units + 100 < cLine)
    {n : LN} {b : Addr} {ws : List Value} {ns : List Int} (hnum : n.numbers = some (.ref b)) (hI : IntsAre ws (numsI ns)) (hns : ns.length ≤ 63)
    (St : LSt base L h n none none none none [(b, PySem.W.listOf ws.toArray 0)])
    {Q : Flow → Shared → Prop} (ret : ∀ h' tk' c lp nc, LSt base L h' n (some (.ref c)) none none none [(c, lst lp nc), (b, PySem.W.listOf ws.toArray 0)] → lp.map (·.1) = wayF (((numsI ns).sum + 93).toNat % 512) → Q .next { s with heap := h', toks := tk' }) :
    wpAny (model PySem.Challenge.rw_aa0007_01.row.prog w) A (exec (lawSt 1) (lawEnv L fa cd)) Q noE { s with heap := h, toks := tk } := by
  (refine aro hh hroom hun ?_; clear hh hroom hun; intro ad af ag au hroom hun; obtain ⟨F, ⟨o1, o2, o3, o4, d1, d2, d3, d4, N⟩, hl⟩ := St)
  refine hideL ?_; intro gg1
  obtain ⟨script, numbers, folders, files, k, way, begn, letter, near, seen, word, close, plain, wide, told, due⟩ := n
  k_unfold
  (try dsimp only at ret)
  obtain rfl : numbers = _ := hnum
  (refine' st_as ?e1 ?e2 ?_; (case e1 => (conv => lhs; whnf)); (case e2 => (conv => lhs; unfold lawEnv; arg 2; whnf)); intro env' A' gg dd oo; revert X; k_fill; intro X)
  ((try k_extra "rf"); (repeat' (first | (k_extra "w1") | (k_end; (k_extra "lAn"); (k_extra "vn")) | (k_extra "rq") | ((k_extra "lC"); (k_extra "wo")))))
  refine ⟨X.keeps (by rename Fr _ _ _ _ => F; exact F.keep), ?_⟩
  rename News _ _ _ _ => N
  rename Fr _ _ _ _ => F
  obtain ⟨m, hm, hm2, hm3⟩ : ∃ m : Nat, ((numsI ns).sum + 93).fmod 512 = (m : Int) ∧ m < 512 ∧ m = ((numsI ns).sum + 93).toNat % 512 := by
    have h0 : 0 ≤ (numsI ns).sum + 93 := by have := numsI_pos ns; (lia)
    refine ⟨((numsI ns).sum + 93).toNat % 512, ?_, by (lia), rfl⟩
    rw [Int.fmod_eq_emod_of_nonneg _ (by first | with_reducible assumption | decide | exact Nat.le_trans (by with_reducible assumption) (Nat.le_of_ble_eq_true rfl) | omega)]; exact mod_cast512 h0
  rw [hm]
  rw [← hm3] at ret
  refine ct_way (X.keeps F.keep) (T.keeps F.keep) (by show ad + 5 < recursionLimit; first | exact room hroom rfl | exact room2 hroom rfl | exact room3 hroom rfl | omega) (by show au + 50 < cLine; first | exact room hun rfl | exact room2 hun rfl | exact room3 hun rfl | omega) m _ hm2 ?_
  intro h2 tk2 c l nn st2 hc hl2 nc
  have F2 := fr_stay F st2
  have N2 := news_fresh F nc hc (news_stay N st2)
  clear F N
  refine st_place (pre := [_]) (W := [_]) F2 N2 d1 (List.forall_mem_cons.mpr ⟨IsL.noC ⟨_, _, rfl⟩, List.forall_mem_nil _⟩) hl ?_
  intro h3 o1' F3 N3 d1'
  exact ret _ _ c l nn ⟨F3, ⟨o1', o2, o3, o4, d1', d2, d3, d4, lst_news (pre := [_]) (X := [_]) (W := [_]) N3 (fun _ z => z)⟩, isL_cons hl⟩ hl2
end TS1
section TS2
open PySem PySem.W PyProof.Rows PySem.Calls
set_option maxHeartbeats 8000000
theorem law_s2 {w : World} {A : Around} {s : Shared} {p : Program} {loose : List Str} {mean : ExcName → Option Value} {mg mb : Str → Option Value} {base h : Heap} {tk : Nat} {L fa : Addr} {cd : Value}
    (X : (Mine.top.heap_1_39 w.params).In base) (T : Top p loose mean mg mb base) (hroom : A.depth + 100 < recursionLimit) (hh : A.handled = none) (hun : A.units + 100 < cLine)
    {n : LN} {cp ch cr cf : Option Value} {W : List (Addr × Obj)} {c : Addr} {lp : List (Str × Tok)} {nc : Nat} (hcp : cp = some (.ref c)) (hm : (c, lst lp nc) ∈ W) (zl : lp.length ≤ 9) (zc : ∀ x ∈ lp.map (·.1), x.length ≤ 9)
    (St : LSt base L h n cp ch cr cf W)
    {Q : Flow → Shared → Prop} (ret : ∀ h' tk' t, LSt base L h' n cp (some (.str (Str.ofString "/" ++ Txt.join (Str.ofString "/") (lp.map (·.1))) t)) cr cf W → Q .next { s with heap := h', toks := tk' }) :
    wpAny (model PySem.Challenge.rw_aa0007_01.row.prog w) A (exec (lawSt 2) (lawEnv L fa cd)) Q noE { s with heap := h, toks := tk } := by
  (refine aro hh hroom hun ?_; clear hh hroom hun; intro ad af ag au hroom hun; obtain ⟨F, ⟨o1, o2, o3, o4, d1, d2, d3, d4, N⟩, hl⟩ := St)
  refine hideL ?_; intro gg1
  obtain ⟨script, numbers, folders, files, k, way, begn, letter, near, seen, word, close, plain, wide, told, due⟩ := n
  k_unfold
  (try dsimp only at ret)
  subst hcp
  (refine' st_as ?e1 ?e2 ?_; (case e1 => (conv => lhs; whnf)); (case e2 => (conv => lhs; unfold lawEnv; arg 2; whnf)); intro env' A' gg dd oo; revert X; k_fill; intro X)
  ((try k_extra "rf"); (repeat' (first | (k_extra "w1") | (k_end; (k_extra "lAn"); (k_extra "vn")) | (k_extra "rq") | ((k_extra "lB"); (k_extra "wo")))))
  rename News _ _ _ _ => N
  rename Fr _ _ _ _ => F
  have zj := join_small (lp.map (·.1)) zc (by rw [List.length_map]; exact Nat.le_trans zl (Nat.le_of_ble_eq_true rfl))
  refine SC.join (⟨_, (N _ (.tail _ (.tail _ (.tail _ (.tail _ hm))))).1, rfl, _, rfl⟩ : Heap.IsList _ _ (strValues lp).toArray) rfl (joinOk_of_weight (wt_of (m := 9) zc (by rw [List.length_map]; exact zl) rfl) (by decide)) ?_
  intro tj kj
  (try dsimp only)
  ((try k_extra "rf"); (repeat' (first | (k_extra "wb") | ((k_extra "lSn"); (k_extra "wo")))))
  rename News _ _ _ _ => N
  rename Fr _ _ _ _ => F
  refine st_home (pre := []) F N d2 (List.forall_mem_nil _) hl ?_
  intro h3 o2' F3 N3 d2'
  exact ret _ _ _ ⟨F3, ⟨o1, o2', o3, o4, d1, d2', d3, d4, N3⟩, hl⟩
end TS2
section TS3
open PySem PySem.W PyProof.Rows PySem.Calls
set_option maxHeartbeats 8000000
theorem law_s3 {w : World} {A : Around} {s : Shared} {p : Program} {loose : List Str} {mean : ExcName → Option Value} {mg mb : Str → Option Value} {base h : Heap} {tk : Nat} {L fa : Addr} {cd : Value}
    (X : (Mine.top.heap_1_39 w.params).In base) (T : Top p loose mean mg mb base) (hroom : A.depth + 100 < recursionLimit) (hh : A.handled = none) (hun : A.units + 100 < cLine)
    {n : LN} {cp ch cr cf : Option Value} {W : List (Addr × Obj)} 
    (St : LSt base L h n cp ch cr cf W)
    {Q : Flow → Shared → Prop} (ret : ∀ h' tk' fo, LSt base L h' { n with folders := some (.ref fo) } cp ch cr cf ((fo, PySem.W.listOf #[] 0) :: W) → (∀ p ∈ W, @LT.lt Nat _ p.1 fo) → @LT.lt Nat _ (L + 4) fo → Q .next { s with heap := h', toks := tk' }) :
    wpAny (model PySem.Challenge.rw_aa0007_01.row.prog w) A (exec (lawSt 3) (lawEnv L fa cd)) Q noE { s with heap := h, toks := tk } := by
  (refine aro hh hroom hun ?_; clear hh hroom hun; intro ad af ag au hroom hun; obtain ⟨F, ⟨o1, o2, o3, o4, d1, d2, d3, d4, N⟩, hl⟩ := St)
  refine hideL ?_; intro gg1
  obtain ⟨script, numbers, folders, files, k, way, begn, letter, near, seen, word, close, plain, wide, told, due⟩ := n
  k_unfold
  (try dsimp only at ret)
  (refine' st_as ?e1 ?e2 ?_; (case e1 => (conv => lhs; whnf)); (case e2 => (conv => lhs; unfold lawEnv; arg 2; whnf)); intro env' A' gg dd oo; revert X; k_fill; intro X)
  ((try k_extra "rf"); (repeat' (first | (k_extra "w1") | (k_end; (k_extra "lAn"); (k_extra "vn")) | (k_extra "rq") | (k_extra "wo"))))
  ((try dsimp only); rename News _ _ _ _ => N; rename Fr _ _ _ _ => F; (try dsimp only at F N))
  rename (_ ∧ _ ∧ _ ∧ _ ∧ AllLt _ _) => b
  rw [lm_folders] at F
  exact ret _ _ _ ⟨F, ⟨o1, o2, o3, o4, d1, d2, d3, d4, lst_news (pre := [_]) (X := [_]) N (fun _ z => z)⟩, isL_cons hl⟩ (fun q hq => allLt_mem b.2.2.2.2 q hq) b.1
end TS3
section TS4
open PySem PySem.W PyProof.Rows PySem.Calls
set_option maxHeartbeats 8000000
theorem law_s4 {w : World} {A : Around} {s : Shared} {p : Program} {loose : List Str} {mean : ExcName → Option Value} {mg mb : Str → Option Value} {base h : Heap} {tk : Nat} {L fa : Addr} {cd : Value}
    (X : (Mine.top.heap_1_39 w.params).In base) (T : Top p loose mean mg mb base) (hroom : A.depth + 100 < recursionLimit) (hh : A.handled = none) (hun : A.units + 100 < cLine)
    {n : LN} {cp ch cr cf : Option Value} {W : List (Addr × Obj)} 
    (St : LSt base L h n cp ch cr cf W)
    {Q : Flow → Shared → Prop} (ret : ∀ h' tk' fo, LSt base L h' { n with files := some (.ref fo) } cp ch cr cf ((fo, PySem.W.listOf #[] 0) :: W) → (∀ p ∈ W, @LT.lt Nat _ p.1 fo) → @LT.lt Nat _ (L + 4) fo → Q .next { s with heap := h', toks := tk' }) :
    wpAny (model PySem.Challenge.rw_aa0007_01.row.prog w) A (exec (lawSt 4) (lawEnv L fa cd)) Q noE { s with heap := h, toks := tk } := by
  (refine aro hh hroom hun ?_; clear hh hroom hun; intro ad af ag au hroom hun; obtain ⟨F, ⟨o1, o2, o3, o4, d1, d2, d3, d4, N⟩, hl⟩ := St)
  refine hideL ?_; intro gg1
  obtain ⟨script, numbers, folders, files, k, way, begn, letter, near, seen, word, close, plain, wide, told, due⟩ := n
  k_unfold
  (try dsimp only at ret)
  (refine' st_as ?e1 ?e2 ?_; (case e1 => (conv => lhs; whnf)); (case e2 => (conv => lhs; unfold lawEnv; arg 2; whnf)); intro env' A' gg dd oo; revert X; k_fill; intro X)
  ((try k_extra "rf"); (repeat' (first | (k_extra "w1") | (k_end; (k_extra "lAn"); (k_extra "vn")) | (k_extra "rq") | (k_extra "wo"))))
  ((try dsimp only); rename News _ _ _ _ => N; rename Fr _ _ _ _ => F; (try dsimp only at F N))
  rename (_ ∧ _ ∧ _ ∧ _ ∧ AllLt _ _) => b
  rw [lm_files] at F
  exact ret _ _ _ ⟨F, ⟨o1, o2, o3, o4, d1, d2, d3, d4, lst_news (pre := [_]) (X := [_]) N (fun _ z => z)⟩, isL_cons hl⟩ (fun q hq => allLt_mem b.2.2.2.2 q hq) b.1
end TS4
section TB12
open PySem PySem.W PyProof.Rows PySem.Calls
set_option maxHeartbeats 4000000
open LCg
inductive TextTurn (s : Shared) (h₀ : Heap) (L : Addr) (m : Str → Option Value) (I : Addr) (oI : Obj) (C : Addr) (oC : Obj) (D : Addr) (lw : List (Str × Tok)) (news : List (Addr × Obj)) (x : Str) (y : Value) (s₂ : Shared) : Prop where
  | mk (h' : Heap) (tk' : Nat) (t : Tok) (e : s₂ = { s with heap := h', toks := tk' }) (F : Fr h₀ L h' m) (N : News h₀ L h' ((I, oI) :: (C, oC) :: (D, LCg.lst (strValues lw)) :: news)) (ey : y = .str x t)
theorem comp_texts {prog : Program} {w : World} {A : Around} {h₀ : Heap} {L : Addr} {m : Str → Option Value} {env : Env} {elt : Expr} {x : Str} {scope : Scope} {cl : List (Str × Addr)} {Fin : Shared → List Value → List (Addr × Obj) → Prop} {ax : Addr} {its : Array Value} {k : Nat} {news W : List (Addr × Obj)} {s₁ : Shared} {ks : List Nat} {tr : Nat → PT} (f : Nat → Str)
    (hh : A.handled = none) (F : Fr h₀ L s₁.heap m) (N : News h₀ L s₁.heap news) (hm : (ax, ({ cls := .type "list", data := .seq its k } : Obj)) ∈ news) (hb : BearsL W (ks.map tr) its.toList) (hl : ks.length ≤ 11)
    (step : ∀ k0 v lw I oI C oC D m₂ h tk (E' : Value → Shared → Prop), k0 ∈ ks → Bears W (tr k0) v → NsObj oC m₂ → m₂ x = some v → Fr h₀ L h m → News h₀ L h ((I, oI) :: (C, oC) :: (D, LCg.lst (strValues lw)) :: news) → Off3 I C D news → ((@Ne Nat I C) ∧ (@Ne Nat I D) ∧ (@Ne Nat C D)) →
      wpAny (model prog w) A (eval elt (compEnvC scope cl C env)) (TextTurn s₁ h₀ L m I oI C oC D lw news (f k0)) E' { s₁ with heap := h, toks := tk })
    (fin : ∀ lw g, lw.map (·.1) = ks.map f → Fin { s₁ with heap := g } (strValues lw) news) :
    CompSrc prog w A h₀ L m env elt x scope cl Fin (.ref ax) s₁ := by
  have hz : its.size = ks.length := by rw [← Array.length_toList, bearsL_len hb, List.length_map]
  refine CompSrc.ledger hh F N hm (by rw [hz]; exact Nat.le_trans hl (by decide)) fun g => ?_
  refine comp_inv (n := its.size) (fun i ys news' => ∃ lw : List (Str × Tok), ys = strValues lw ∧ lw.map (·.1) = (ks.take i).map f ∧ news' = news) ?_ ?_ its.size 0 [] _ (Nat.zero_add _) ⟨[], rfl, rfl, rfl⟩
  · rintro i v ys news' I oI C oC D m₂ h tk E' hi hv hp1_15 hC hx F1 N1 off ne
    refine hideL ?_; intro gg1
    obtain ⟨lw, rfl, hlw, rfl⟩ := hp1_15
    k_unfold
    obtain ⟨tr', htr, hbv⟩ := bearsL_get hb i v (by rw [Array.getElem?_toList]; exact hv)
    refine hideL ?_; intro gg2
    obtain ⟨k0, hk0, rfl⟩ : ∃ k0, ks[i]? = some k0 ∧ tr' = tr k0 := map_get htr
    k_unfold
    refine wpAny_mono (step k0 v lw I oI C oC D m₂ h tk E' (List.mem_of_getElem? hk0) hbv hC hx F1 N1 off ne) (fun y s₂ z => ?_) fun _ _ z => z
    refine hideL ?_; intro gg3
    obtain ⟨h', tk', t, rfl, F', N', rfl⟩ := z
    k_unfold
    exact ⟨h', tk', _, rfl, F', N', off, .inr ⟨_, hm, rfl, _, rfl⟩, lw ++ [(f k0, t)], sv_snoc _ _ _, map_take hlw hk0 rfl, rfl⟩
  · rintro ys news' hp4_2
    refine hideL ?_; intro gg4
    obtain ⟨lw, rfl, hlw, rfl⟩ := hp4_2
    k_unfold
    rw [List.take_of_length_le (Nat.le_of_eq hz.symm)] at hlw
    exact fin lw g hlw
end TB12
section TS6
open PySem PySem.W PyProof.Rows PySem.Calls
set_option maxHeartbeats 8000000

theorem law_s6 {w : World} {A : Around} {s : Shared} {p : Program} {loose : List Str} {mean : ExcName → Option Value} {mg mb : Str → Option Value} {base h : Heap} {tk : Nat} {L fa : Addr} {cd : Value}
    (X : (Mine.top.heap_1_39 w.params).In base) (T : Top p loose mean mg mb base) (hroom : A.depth + 100 < recursionLimit) (hh : A.handled = none) (hun : A.units + 100 < cLine)
    {n : LN} {cp ch cr cf : Option Value} {W : List (Addr × Obj)} {fo : Addr} {th : Tok} {ns : List Int} {ks : List Nat} (hfo : n.folders = some (.ref fo)) (hch : ch = some (.str (homeF ns) th)) (hfr : A.frames = some [lawEnv L fa cd]) (hfb : Bears W (.l (ks.map (folT ns))) (.ref fo)) (hks : ks ≠ []) (hkl : ks.length ≤ 11) (hkk : ∀ k ∈ ks, k < 11)
    (St : LSt base L h n cp ch cr cf W)
    {Q : Flow → Shared → Prop} (ret : ∀ h' tk' D c l, LSt base L h' { n with near := some (.ref D) } cp ch cr cf ((D, PySem.W.listOf (strValues l).toArray c) :: W) → l.map (·.1) = ks.map (folW ns) → Q .next { s with heap := h', toks := tk' }) :
    wpAny (model PySem.Challenge.rw_aa0007_01.row.prog w) A (exec (lawSt 6) (lawEnv L fa cd)) Q noE { s with heap := h, toks := tk } := by
  (obtain ⟨ah, ad, af, ag, au⟩ := A; obtain rfl : ah = none := hh; dsimp only at hroom hun; obtain ⟨F, ⟨o1, o2, o3, o4, d1, d2, d3, d4, N⟩, hl⟩ := St)
  refine hideL ?_; intro gg1
  obtain ⟨script, numbers, folders, files, k, way, begn, letter, near, seen, word, close, plain, wide, told, due⟩ := n
  k_unfold
  (try dsimp only at ret)
  obtain rfl : folders = _ := hfo
  subst hch
  obtain rfl : af = _ := hfr
  (refine' st_as ?e1 ?e2 ?_; (case e1 => (conv => lhs; whnf)); (case e2 => (conv => lhs; unfold lawEnv; arg 2; whnf)); intro env' A' gg dd oo; revert X; k_fill; intro X)
  refine hideL ?_; intro gg2
  obtain ⟨its, nf, hm, hb⟩ := bears_ref hfb
  k_unfold
  ((try k_extra "rf"); (repeat' (first | (k_extra "v0") | (k_extra "wn") | ((k_extra "ge"); (k_extra "lL"); (k_extra "ve")) | ((k_extra "gx"); (k_extra "vx")) | (k_extra "rq") | ((k_extra "lL"); (k_extra "wo")))))
  rename News _ _ _ _ => N
  rename Fr _ _ _ _ => F
  refine LCg.ListComp_U (F₀ := F) (by with_unfolding_all rfl) (by decide) (by rfl) (by decide) (by rfl) ?_
  ((try k_extra "rf"); (repeat' (first | (k_extra "wb") | (k_extra "wo"))))
  rename News _ _ _ _ => N
  rename Fr _ _ _ _ => F
  refine comp_texts (fun k => quoteS (folW ns k)) rfl F N (.tail _ (.tail _ (.tail _ (.tail _ hm)))) hb hkl ?_ ?_
  · intro k0 v lw I oI C oC D m₂ h tk E' hk0 hbv hC hx F N off ne
    have hkm : k0 < 11 := hkk k0 hk0
    refine hideL ?_; intro gg3
    obtain ⟨r, vs, nv, rfl, hmr, hbr⟩ := bears_of_l hbv
    obtain ⟨tp, hv1⟩ := bearsL_str hbr 1 (x := folP ns k0) rfl
    k_unfold
    ((try k_extra "rf"); (repeat' (first | (k_extra "wb") | ((k_extra "lS"); (k_extra "wo")))))
    rename News _ _ _ _ => N
    rename Fr _ _ _ _ => F
    refine item_list (hs := by with_unfolding_all rfl) (⟨_, (N (r, { cls := .type "list", data := .seq vs nv }) (by repeat' first | exact List.Mem.head _ | exact hmr | exact List.mem_append_right _ hmr | refine' List.Mem.tail _ ?_)).1, rfl, _, rfl⟩ : Heap.IsList _ r vs) (by first | with_reducible assumption | decide | exact Nat.le_trans (by with_reducible assumption) (Nat.le_of_ble_eq_true rfl) | omega) (by first | with_reducible assumption | decide | exact Nat.le_trans (by with_reducible assumption) (Nat.le_of_ble_eq_true rfl) | omega) hv1 ?_
    (try dsimp only)
    ((try k_extra "rf"); (repeat' (first | (k_extra "wb") | ((k_extra "lC"); (k_extra "wo")))))
    rename News _ _ _ _ => N
    rename Fr _ _ _ _ => F
    refine hideL ?_; intro gg4
    obtain ⟨cs, hpo, hnc⟩ := fol_ok ns k0
    obtain ⟨ds, hpd, hnd⟩ := home_ok ns
    k_unfold
    (try k_fold)
    refine wpAny_mono (ct_relpath (X.keeps F.keep) (T.keeps F.keep) (by show ad + 40 < recursionLimit; first | exact room hroom rfl | exact room2 hroom rfl | exact room3 hroom rfl | omega) rfl (by show au + 60 < cLine; first | exact room hun rfl | exact room2 hun rfl | exact room3 hun rfl | omega) (folP ns k0) (homeF ns) tp th hpo hpd ?_) (fun _ _ z => z) (fun _ _ (z : False) => z.elim)
    intro h2 tk2 t2 st2
    rw [hnc, hnd]
    have F2 := fr_stay F st2
    have N2 := news_stay N st2
    clear F N
    have hwo := folW_ok ns k0
    ((try k_extra "rf"); (repeat' (first | (k_extra "wb") | ((k_extra "lC"); (k_extra "wo")))))
    rename News _ _ _ _ => N
    rename Fr _ _ _ _ => F
    refine wpAny_mono (ct_quote (X.keeps F.keep) (T.keeps F.keep) (by show ad + 5 < recursionLimit; first | exact room hroom rfl | exact room2 hroom rfl | exact room3 hroom rfl | omega) (folW ns k0) t2 (by have := hwo.sm; (first | exact (ch1 0 100 1 1000 this (Eq.refl true)) | omega)) hwo.ne ?_) (fun _ _ z => z) (fun _ _ (z : False) => z.elim)
    intro h3 tk3 t3 st3
    have F3 := fr_stay F st3
    have N3 := news_stay N st3
    clear F N
    (try dsimp only)
    exact ⟨_, _, _, rfl, F3, N3, rfl⟩
  · intro lw gh hlw D h3 tk3 F N off
    have hlw2 : lw.map (·.1) = (ks.map (folW ns)).map quoteS := by rw [hlw, List.map_map]; rfl
    have hall : ∀ x ∈ ks.map (folW ns), WordOk x := fun x hx => by
      refine hideL ?_; intro gg5
      obtain ⟨k0, hk0, rfl⟩ := List.mem_map.mp hx
      k_unfold
      have hkm : k0 < 11 := hkk k0 hk0
      exact folW_ok ns k0
    ((try k_extra "rf"); (repeat' (first | (k_extra "wb") | ((k_extra "lB"); (k_extra "wo")))))
    rename News _ _ _ _ => N
    rename Fr _ _ _ _ => F
    refine SC.join (N.isList (.head _)) hlw2 (joinOk_of_weight (wt_of (m := 11) (quotes_sm hall) (by rw [List.length_map, List.length_map]; exact hkl) rfl) (by decide)) ?_
    intro tj kj
    (try dsimp only)
    have N4 := news_tail N
    clear N
    ((try k_extra "rf"); (repeat' (first | (k_extra "wb") | ((k_extra "lC"); (k_extra "wo")))))
    rename News _ _ _ _ => N
    rename Fr _ _ _ _ => F
    refine hideL ?_; intro gg6
    obtain ⟨oL, es, ep, hgL, hdL, hrL⟩ := F.ns
    k_unfold
    refine ct_split X T F.keep (by show ad + 40 < recursionLimit; first | exact room hroom rfl | exact room2 hroom rfl | exact room3 hroom rfl | omega) _ tj (line_len hall (by rw [List.length_map]; (first | exact (ch1 0 11 0 20 hkl (Eq.refl true)) | omega))) (line_ok hall) (toks_line _ (fun z => hks (List.map_eq_nil_iff.mp z)) hall) (by rw [List.length_map, List.length_map]; (first | exact (ch1 0 11 0 1000 hkl (Eq.refl true)) | omega)) rfl (env₀ := lawEnv L fa cd) rfl (fun z => ScopeKind.noConfusion (z : ScopeKind.function = ScopeKind.module)) (Lw := L) (oL := oL) rfl hgL (fun vs z => by rw [hdL] at z; cases z) (Heap.get?_none_of_le F.above) ?_
    intro h5 tk5 D5 c5 l5 sl kp hL5 hD5 hz5 hl5
    have F5 : Fr base L h5 _ := ⟨⟨_, es, ep, hL5, hdL, hrL⟩, fun b o e => kp b o (fun m => by rw [List.mem_singleton.mp m, Heap.get?_none_of_le F.above] at e; cases e) (F.keep b o e), F.above⟩
    have N5 := news_new F hz5 hD5 (fun p hp => ⟨kp _ _ (fun m => (N p hp).2.1 (List.mem_singleton.mp m)) (N p hp).1, (N p hp).2⟩)
    clear F N kp
    ((try k_extra "rf"); (repeat' (first | (k_extra "w1") | (k_end; (k_extra "lAn"); (k_extra "vn")) | (k_extra "rq") | (k_extra "wo"))))
    ((try dsimp only); rename News _ _ _ _ => N; rename Fr _ _ _ _ => F; (try dsimp only at F N))
    rw [lm_near] at F
    exact ret _ _ D5 c5 l5 ⟨F, ⟨o1, o2, o3, o4, d1, d2, d3, d4, lst_news (pre := [_]) (X := [_]) N (fun _ z => z)⟩, isL_cons hl⟩ (by rw [hl5, List.map_map, List.map_map]; exact List.map_congr_left fun k0 _ => tx_S _)
end TS6
section TS7
open PySem PySem.W PyProof.Rows PySem.Calls
set_option maxHeartbeats 8000000

theorem law_s7 {w : World} {A : Around} {s : Shared} {p : Program} {loose : List Str} {mean : ExcName → Option Value} {mg mb : Str → Option Value} {base h : Heap} {tk : Nat} {L fa : Addr} {cd : Value}
    (X : (Mine.top.heap_1_39 w.params).In base) (T : Top p loose mean mg mb base) (hroom : A.depth + 100 < recursionLimit) (hh : A.handled = none) (hun : A.units + 100 < cLine)
    {n : LN} {cp ch cr cf : Option Value} {W : List (Addr × Obj)} {fo : Addr} {th : Tok} {ns : List Int} {ks : List Nat} (hfo : n.files = some (.ref fo)) (hch : ch = some (.str (homeF ns) th)) (hfr : A.frames = some [lawEnv L fa cd]) (hfb : Bears W (.l (ks.map (filT ns))) (.ref fo)) (hks : ks ≠ []) (hkl : ks.length ≤ 11) (hkk : ∀ k ∈ ks, k < 11)
    (St : LSt base L h n cp ch cr cf W)
    {Q : Flow → Shared → Prop} (ret : ∀ h' tk' D c l, LSt base L h' { n with seen := some (.ref D) } cp ch cr cf ((D, PySem.W.listOf (strValues l).toArray c) :: W) → l.map (·.1) = ks.map (filW ns) → Q .next { s with heap := h', toks := tk' }) :
    wpAny (model PySem.Challenge.rw_aa0007_01.row.prog w) A (exec (lawSt 7) (lawEnv L fa cd)) Q noE { s with heap := h, toks := tk } := by
  (obtain ⟨ah, ad, af, ag, au⟩ := A; obtain rfl : ah = none := hh; dsimp only at hroom hun; obtain ⟨F, ⟨o1, o2, o3, o4, d1, d2, d3, d4, N⟩, hl⟩ := St)
  refine hideL ?_; intro gg1
  obtain ⟨script, numbers, folders, files, k, way, begn, letter, near, seen, word, close, plain, wide, told, due⟩ := n
  k_unfold
  (try dsimp only at ret)
  obtain rfl : files = _ := hfo
  subst hch
  obtain rfl : af = _ := hfr
  (refine' st_as ?e1 ?e2 ?_; (case e1 => (conv => lhs; whnf)); (case e2 => (conv => lhs; unfold lawEnv; arg 2; whnf)); intro env' A' gg dd oo; revert X; k_fill; intro X)
  refine hideL ?_; intro gg2
  obtain ⟨its, nf, hm, hb⟩ := bears_ref hfb
  k_unfold
  ((try k_extra "rf"); (repeat' (first | (k_extra "v0") | (k_extra "wn") | ((k_extra "ge"); (k_extra "lL"); (k_extra "ve")) | ((k_extra "gx"); (k_extra "vx")) | (k_extra "rq") | ((k_extra "lL"); (k_extra "wo")))))
  rename News _ _ _ _ => N
  rename Fr _ _ _ _ => F
  refine LCg.ListComp_U (F₀ := F) (by with_unfolding_all rfl) (by decide) (by rfl) (by decide) (by rfl) ?_
  ((try k_extra "rf"); (repeat' (first | (k_extra "wb") | (k_extra "wo"))))
  rename News _ _ _ _ => N
  rename Fr _ _ _ _ => F
  refine comp_texts (fun k => quoteS (filW ns k)) rfl F N (.tail _ (.tail _ (.tail _ (.tail _ hm)))) hb hkl ?_ ?_
  · intro k0 v lw I oI C oC D m₂ h tk E' hk0 hbv hC hx F N off ne
    have hkm : k0 < 11 := hkk k0 hk0
    refine hideL ?_; intro gg3
    obtain ⟨r, vs, nv, rfl, hmr, hbr⟩ := bears_of_l hbv
    obtain ⟨tp, hv1⟩ := bearsL_str hbr 1 (x := filP ns k0) rfl
    k_unfold
    ((try k_extra "rf"); (repeat' (first | (k_extra "wb") | ((k_extra "lS"); (k_extra "wo")))))
    rename News _ _ _ _ => N
    rename Fr _ _ _ _ => F
    refine item_list (hs := by with_unfolding_all rfl) (⟨_, (N (r, { cls := .type "list", data := .seq vs nv }) (by repeat' first | exact List.Mem.head _ | exact hmr | exact List.mem_append_right _ hmr | refine' List.Mem.tail _ ?_)).1, rfl, _, rfl⟩ : Heap.IsList _ r vs) (by first | with_reducible assumption | decide | exact Nat.le_trans (by with_reducible assumption) (Nat.le_of_ble_eq_true rfl) | omega) (by first | with_reducible assumption | decide | exact Nat.le_trans (by with_reducible assumption) (Nat.le_of_ble_eq_true rfl) | omega) hv1 ?_
    (try dsimp only)
    ((try k_extra "rf"); (repeat' (first | (k_extra "wb") | ((k_extra "lC"); (k_extra "wo")))))
    rename News _ _ _ _ => N
    rename Fr _ _ _ _ => F
    refine hideL ?_; intro gg4
    obtain ⟨cs, hpo, hnc⟩ := fil_ok ns k0
    obtain ⟨ds, hpd, hnd⟩ := home_ok ns
    k_unfold
    (try k_fold)
    refine wpAny_mono (ct_relpath (X.keeps F.keep) (T.keeps F.keep) (by show ad + 40 < recursionLimit; first | exact room hroom rfl | exact room2 hroom rfl | exact room3 hroom rfl | omega) rfl (by show au + 60 < cLine; first | exact room hun rfl | exact room2 hun rfl | exact room3 hun rfl | omega) (filP ns k0) (homeF ns) tp th hpo hpd ?_) (fun _ _ z => z) (fun _ _ (z : False) => z.elim)
    intro h2 tk2 t2 st2
    rw [hnc, hnd]
    have F2 := fr_stay F st2
    have N2 := news_stay N st2
    clear F N
    have hwo := filW_ok ns hkm
    ((try k_extra "rf"); (repeat' (first | (k_extra "wb") | ((k_extra "lC"); (k_extra "wo")))))
    rename News _ _ _ _ => N
    rename Fr _ _ _ _ => F
    refine wpAny_mono (ct_quote (X.keeps F.keep) (T.keeps F.keep) (by show ad + 5 < recursionLimit; first | exact room hroom rfl | exact room2 hroom rfl | exact room3 hroom rfl | omega) (filW ns k0) t2 (by have := hwo.sm; (first | exact (ch1 0 100 1 1000 this (Eq.refl true)) | omega)) hwo.ne ?_) (fun _ _ z => z) (fun _ _ (z : False) => z.elim)
    intro h3 tk3 t3 st3
    have F3 := fr_stay F st3
    have N3 := news_stay N st3
    clear F N
    (try dsimp only)
    exact ⟨_, _, _, rfl, F3, N3, rfl⟩
  · intro lw gh hlw D h3 tk3 F N off
    have hlw2 : lw.map (·.1) = (ks.map (filW ns)).map quoteS := by rw [hlw, List.map_map]; rfl
    have hall : ∀ x ∈ ks.map (filW ns), WordOk x := fun x hx => by
      refine hideL ?_; intro gg5
      obtain ⟨k0, hk0, rfl⟩ := List.mem_map.mp hx
      k_unfold
      have hkm : k0 < 11 := hkk k0 hk0
      exact filW_ok ns hkm
    ((try k_extra "rf"); (repeat' (first | (k_extra "wb") | ((k_extra "lB"); (k_extra "wo")))))
    rename News _ _ _ _ => N
    rename Fr _ _ _ _ => F
    refine SC.join (N.isList (.head _)) hlw2 (joinOk_of_weight (wt_of (m := 11) (quotes_sm hall) (by rw [List.length_map, List.length_map]; exact hkl) rfl) (by decide)) ?_
    intro tj kj
    (try dsimp only)
    have N4 := news_tail N
    clear N
    ((try k_extra "rf"); (repeat' (first | (k_extra "wb") | ((k_extra "lC"); (k_extra "wo")))))
    rename News _ _ _ _ => N
    rename Fr _ _ _ _ => F
    refine hideL ?_; intro gg6
    obtain ⟨oL, es, ep, hgL, hdL, hrL⟩ := F.ns
    k_unfold
    refine ct_split X T F.keep (by show ad + 40 < recursionLimit; first | exact room hroom rfl | exact room2 hroom rfl | exact room3 hroom rfl | omega) _ tj (line_len hall (by rw [List.length_map]; (first | exact (ch1 0 11 0 20 hkl (Eq.refl true)) | omega))) (line_ok hall) (toks_line _ (fun z => hks (List.map_eq_nil_iff.mp z)) hall) (by rw [List.length_map, List.length_map]; (first | exact (ch1 0 11 0 1000 hkl (Eq.refl true)) | omega)) rfl (env₀ := lawEnv L fa cd) rfl (fun z => ScopeKind.noConfusion (z : ScopeKind.function = ScopeKind.module)) (Lw := L) (oL := oL) rfl hgL (fun vs z => by rw [hdL] at z; cases z) (Heap.get?_none_of_le F.above) ?_
    intro h5 tk5 D5 c5 l5 sl kp hL5 hD5 hz5 hl5
    have F5 : Fr base L h5 _ := ⟨⟨_, es, ep, hL5, hdL, hrL⟩, fun b o e => kp b o (fun m => by rw [List.mem_singleton.mp m, Heap.get?_none_of_le F.above] at e; cases e) (F.keep b o e), F.above⟩
    have N5 := news_new F hz5 hD5 (fun p hp => ⟨kp _ _ (fun m => (N p hp).2.1 (List.mem_singleton.mp m)) (N p hp).1, (N p hp).2⟩)
    clear F N kp
    ((try k_extra "rf"); (repeat' (first | (k_extra "w1") | (k_end; (k_extra "lAn"); (k_extra "vn")) | (k_extra "rq") | (k_extra "wo"))))
    ((try dsimp only); rename News _ _ _ _ => N; rename Fr _ _ _ _ => F; (try dsimp only at F N))
    rw [lm_seen] at F
    exact ret _ _ D5 c5 l5 ⟨F, ⟨o1, o2, o3, o4, d1, d2, d3, d4, lst_news (pre := [_]) (X := [_]) N (fun _ z => z)⟩, isL_cons hl⟩ (by rw [hl5, List.map_map, List.map_map]; exact List.map_congr_left fun k0 _ => tx_S _)
end TS7
section TF1
open PySem PySem.W PyProof.Rows PySem.Calls
set_option maxHeartbeats 8000000


theorem ct_basename {w : World} {A : Around} {Q : Value → Shared → Prop} {s : Shared} {p : Program} {loose : List Str} {mean : ExcName → Option Value} {mg mb : Str → Option Value}
    (X : (Mine.top.heap_1_39 w.params).In s.heap) (T : Top p loose mean mg mb s.heap) (hroom : A.depth + 10 < recursionLimit) (x : Str) (t : Tok) (hx : x.length < 1000) {i : Nat} (hi : Txt.rfind x (Str.ofString "/") + 1 = (i : Int)) (hil : i ≤ x.length)
    (ret : ∀ h' tk t', Stays s.heap h' → Q (.str (Txt.slice x (some (i : Int)) none) t') { s with heap := h', toks := tk }) :
    wpAny (model PySem.Challenge.rw_aa0007_01.row.prog w) A (call (.ref 799) [.str x t]) Q noE s := by
  revert X; k_fill; intro X
  k_dflt (refine' enterK (binds := [(Str.ofString "p", Value.str x t)]) ?k1 ?k2 ?k6 ?k7 ?k8 ?k9 ?kB ?_ ?c5 ?c2 ?c3 ?c4; ((case k1 => assumption); (case k2 => exact Top.nolimit (by assumption)); (case k6 => k_is); (case k7 => k_is); (case k8 => (try dsimp only); (first | exact (ch1 11 0 1 0 hroom (Eq.refl true)) | omega)); (case k9 => exact BindsTo.of_eq rfl); (case c5 => decide); (case kB => exact locs rfl); (case c2 => exact rfl); (case c3 => exact rfl); (case c4 => exact rfl)))
  intro h₁ F
  (try k_extra "en")
  have N : News s.heap s.heap.objs.size h₁ [] := News.nil
  ((try k_extra "rf"); (repeat' (first | (k_extra "wb") | ((k_extra "lC"); (k_extra "wo")))))
  (rename News _ _ _ _ => N; rename Fr _ _ _ _ => F; refine ct_fspathP (X.keeps F.keep) (T.keeps F.keep) (by first | exact roomd hroom rfl | exact room2 (j := 1) hroom rfl | (simp only [depth_deeper]; omega)) _ _ _ _ ?_; intro h2 tk2 st2; have F2 := fr_stay F st2; have N2 := news_stay N st2; clear F N st2)
  ((try k_extra "rf"); (repeat' (first | (k_extra "wb") | ((k_extra "lBi"); (k_extra "wo")))))
  have e : (i : Int) - 1 + 1 = i := by (lia)
  rw [show Txt.rfind x (Str.ofString "/") = (i : Int) - 1 by (lia)]
  rw [← e] at ret
  ((try k_extra "rf"); (repeat' (first | (k_extra "wb") | (k_extra "wo"))))
  (try dsimp only)
  rename News _ _ _ _ => N
  rename Fr _ _ _ _ => F
  exact ret _ _ _ F.keep
end TF1
section TF3
open PySem PySem.W PyProof.Rows PySem.Calls
set_option maxHeartbeats 8000000


theorem ct_splitext {w : World} {A : Around} {Q : Value → Shared → Prop} {s : Shared} {p : Program} {loose : List Str} {mean : ExcName → Option Value} {mg mb : Str → Option Value}
    (X : (Mine.top.heap_1_39 w.params).In s.heap) (T : Top p loose mean mg mb s.heap) (hroom : A.depth + 10 < recursionLimit) (x : Str) (t : Tok) (hx : x.length = 3)
    (r1 : Txt.rfind x (Str.ofString "/") = -1) (r2 : Txt.rfind x (Str.ofString ".") = 1) (r3 : (Txt.slice x (some 0) (some 1) != Str.ofString ".") = true)
    (ret : ∀ h' tk D t1 t2, Stays s.heap h' → h'.get? D = some { cls := .type "tuple", data := .seq #[.str (Txt.slice x none (some 1)) t1, .str (Txt.slice x (some 1) none) t2] } → s.heap.get? D = none → Q (.ref D) { s with heap := h', toks := tk }) :
    wpAny (model PySem.Challenge.rw_aa0007_01.row.prog w) A (call (.ref 771) [.str x t]) Q noE s := by
  revert X; k_fill; intro X
  k_dflt (refine' enterK (binds := [(Str.ofString "p", Value.str x t)]) ?k1 ?k2 ?k6 ?k7 ?k8 ?k9 ?kB ?_ ?c5 ?c2 ?c3 ?c4; ((case k1 => assumption); (case k2 => exact Top.nolimit (by assumption)); (case k6 => k_is); (case k7 => k_is); (case k8 => (try dsimp only); (first | exact (ch1 11 0 1 0 hroom (Eq.refl true)) | omega)); (case k9 => exact BindsTo.of_eq rfl); (case c5 => decide); (case kB => exact locs rfl); (case c2 => exact rfl); (case c3 => exact rfl); (case c4 => exact rfl)))
  intro h₁ F
  (try k_extra "en")
  have N : News s.heap s.heap.objs.size h₁ [] := News.nil
  ((try k_extra "rf"); (repeat' (first | (k_extra "wd") | ((k_extra "lC"); (k_extra "wo")))))
  (rename News _ _ _ _ => N; rename Fr _ _ _ _ => F; refine ct_fspathP (X.keeps F.keep) (T.keeps F.keep) (by first | exact roomd hroom rfl | exact room2 (j := 1) hroom rfl | (simp only [depth_deeper]; omega)) _ _ _ _ ?_; intro h2 tk2 st2; have F2 := fr_stay F st2; have N2 := news_stay N st2; clear F N st2)
  ((try k_extra "rf"); (repeat' (first | (k_extra "v0") | (k_extra "wn") | ((k_extra "ge"); (k_extra "ve")) | ((k_extra "gx"); (k_extra "lW"); (k_extra "vx")) | (k_extra "rd") | ((k_extra "lW"); (k_extra "lQ"); (k_extra "wo")))))
  rename News _ _ _ _ => N
  rename Fr _ _ _ _ => F
  rw [r1, r2] at F ⊢
  ((try k_extra "rf"); (repeat' (first | (k_extra "v0") | (k_extra "wn") | ((k_extra "ge"); (k_extra "ve")) | ((k_extra "gx"); (k_extra "lW"); (k_extra "vx")) | (k_extra "rd") | ((k_extra "lW"); (k_extra "wo")))))
  rename News _ _ _ _ => N
  rename Fr _ _ _ _ => F
  rw [show (-1 + 1 : Int) = 0 by decide] at F
  refine while_ (fun _ s' => s' = _) ?_ 0 rfl
  rintro _ _ rfl
  ((try k_extra "rf"); (repeat' (first | (k_extra "wd") | (k_extra "wo"))))
  (try dsimp only)
  rename News _ _ _ _ => N
  rename Fr _ _ _ _ => F
  exact ret _ _ _ _ _ F.keep (N _ (.head _)).1 (N _ (.head _)).2.2
end TF3
section TF4
open PySem PySem.W PyProof.Rows PySem.Calls
set_option maxHeartbeats 8000000


theorem ct_modname {w : World} {A : Around} {Q : Value → Shared → Prop} {s : Shared} {p : Program} {loose : List Str} {mean : ExcName → Option Value} {mg mb : Str → Option Value}
    (X : (Mine.top.heap_1_39 w.params).In s.heap) (T : Top p loose mean mg mb s.heap) (hroom : A.depth + 15 < recursionLimit) (hh : A.handled = none) (x : Str) (t : Tok) (hx : x.length < 1000) {i : Nat} (hi : Txt.rfind x (Str.ofString "/") + 1 = (i : Int)) (hil : i ≤ x.length)
    {b : Str} (hb : Txt.slice x (some (i : Int)) none = b) (hbl : b.length = 3) (r1 : Txt.rfind b (Str.ofString "/") = -1) (r2 : Txt.rfind b (Str.ofString ".") = 1) (r3 : (Txt.slice b (some 0) (some 1) != Str.ofString ".") = true)
    (ret : ∀ h' tk t', Stays s.heap h' → Q (.str (Txt.slice b none (some 1)) t') { s with heap := h', toks := tk }) :
    wpAny (model PySem.Challenge.rw_aa0007_01.row.prog w) A (call (.ref 965) [.str x t]) Q noE s := by
  refine aro1 hh hroom ?_
  clear hh hroom
  intro ad af ag au hroom
  revert X; k_fill; intro X
  k_dflt (refine' enterK (binds := [(Str.ofString "path", Value.str x t)]) ?k1 ?k2 ?k6 ?k7 ?k8 ?k9 ?kB ?_ ?c5 ?c2 ?c3 ?c4; ((case k1 => assumption); (case k2 => exact Top.nolimit (by assumption)); (case k6 => k_is); (case k7 => k_is); (case k8 => (try dsimp only); (first | exact (ch1 21 0 1 0 hroom (Eq.refl true)) | exact (ch1 26 0 1 0 hroom (Eq.refl true)) | exact (ch1 16 0 1 0 hroom (Eq.refl true)) | omega)); (case k9 => exact BindsTo.of_eq rfl); (case c5 => decide); (case kB => exact locs rfl); (case c2 => exact rfl); (case c3 => exact rfl); (case c4 => exact rfl)))
  intro h₁ F
  (try k_extra "en")
  have N : News s.heap s.heap.objs.size h₁ [] := News.nil
  ((try k_extra "rf"); (repeat' (first | (k_extra "wb") | ((k_extra "lC"); (k_extra "wo")))))
  rename News _ _ _ _ => N
  rename Fr _ _ _ _ => F
  refine ct_basename (X.keeps F.keep) (T.keeps F.keep) (by show ad + 1 + 10 < recursionLimit; first | exact room hroom rfl | exact room2 hroom rfl | exact room3 hroom rfl | omega) x t hx hi hil ?_
  intro h2 tk2 t2 st2
  rw [hb]
  have F2 := fr_stay F st2
  have N2 := news_stay N st2
  clear F N st2
  ((try k_extra "rf"); (repeat' (first | (k_extra "wb") | ((k_extra "lC"); (k_extra "wo")))))
  rename News _ _ _ _ => N
  rename Fr _ _ _ _ => F
  refine ct_splitext (X.keeps F.keep) (T.keeps F.keep) (by show ad + 1 + 10 < recursionLimit; first | exact room hroom rfl | exact room2 hroom rfl | exact room3 hroom rfl | omega) b _ hbl r1 r2 r3 ?_
  intro h3 tk3 D t3 t4 st3 hD nD
  have F3 := fr_stay F st3
  have N3 := news_fresh F nD hD (news_stay N st3)
  clear F N st3
  ((try k_extra "rf"); (repeat' (first | (k_extra "wb") | (k_extra "wo"))))
  (try dsimp only)
  rename News _ _ _ _ => N
  rename Fr _ _ _ _ => F
  exact ret _ _ _ F.keep
end TF4
section TS8
open PySem PySem.W PyProof.Rows PySem.Calls
set_option maxHeartbeats 8000000

theorem law_s8 {w : World} {A : Around} {s : Shared} {p : Program} {loose : List Str} {mean : ExcName → Option Value} {mg mb : Str → Option Value} {base h : Heap} {tk : Nat} {L fa : Addr} {cd : Value}
    (X : (Mine.top.heap_1_39 w.params).In base) (T : Top p loose mean mg mb base) (hroom : A.depth + 100 < recursionLimit) (hh : A.handled = none) (hun : A.units + 100 < cLine)
    {n : LN} {cp ch cr cf : Option Value} {W : List (Addr × Obj)} {D : Addr} {l : List (Str × Tok)} {c : Nat} {ns : List Int} {ks : List Nat} (hsr : n.seen = some (.ref D)) (hm : (D, PySem.W.listOf (strValues l).toArray c) ∈ W) (hlk : l.map (·.1) = ks.map (filW ns)) (hkl : ks.length ≤ 11) (hkk : ∀ k ∈ ks, k < 11)
    (St : LSt base L h n cp ch cr cf W)
    {Q : Flow → Shared → Prop} (ret : ∀ h' tk' D' W', LSt base L h' { n with close := some (.ref D') } cp ch cr cf (W' ++ W) → Bears (W' ++ W) (.l (ks.map fun k => .l [.s (filW ns k), .s (letK k)])) (.ref D') → Q .next { s with heap := h', toks := tk' }) :
    wpAny (model PySem.Challenge.rw_aa0007_01.row.prog w) A (exec (lawSt 8) (lawEnv L fa cd)) Q noE { s with heap := h, toks := tk } := by
  (refine aro hh hroom hun ?_; clear hh hroom hun; intro ad af ag au hroom hun; obtain ⟨F, ⟨o1, o2, o3, o4, d1, d2, d3, d4, N⟩, hl⟩ := St)
  refine hideL ?_; intro gg1
  obtain ⟨script, numbers, folders, files, k, way, begn, letter, near, seen, word, close, plain, wide, told, due⟩ := n
  k_unfold
  (try dsimp only at ret)
  obtain rfl : seen = _ := hsr
  (refine' st_as ?e1 ?e2 ?_; (case e1 => (conv => lhs; whnf)); (case e2 => (conv => lhs; unfold lawEnv; arg 2; whnf)); intro env' A' gg dd oo; revert X; k_fill; intro X)
  have hz : l.length = ks.length := by have := congrArg List.length hlk; simpa using this
  have hz2 : (strValues l).toArray.size = ks.length := by rw [sv_size, hz]
  have z1000 : (1000 : Nat) ≤ sizeLine := by decide
  refine LCg.Assign_ListComp_U (F₀ := F) (by rfl) (by with_unfolding_all rfl) (by with_unfolding_all rfl) (by decide) (by rfl) (by decide) (by rfl) (by rfl) (by rfl) ?_
  ((try k_extra "rf"); (repeat' (first | (k_extra "wb") | (k_extra "wo"))))
  rename News _ _ _ _ => N
  rename Fr _ _ _ _ => F
  refine LCg.CompSrc.ledger (its := (strValues l).toArray) (k := c) rfl F N (.tail _ (.tail _ (.tail _ (.tail _ hm)))) (by rw [hz2]; exact Nat.le_trans hkl (by decide)) fun g => ?_
  refine comp_inv (n := (strValues l).toArray.size) (fun i ys news => ∃ X : List (Addr × Obj), BearsL X ((ks.take i).map fun k => .l [.s (filW ns k), .s (letK k)]) ys ∧ (∀ p ∈ X, IsL p.2) ∧ news = (L + 1 + 1 + 1 + 1, o4) :: (L + 1 + 1 + 1, o3) :: (L + 1 + 1, o2) :: (L + 1, o1) :: (X ++ W)) ?_ ?_ (strValues l).toArray.size 0 [] _ (Nat.zero_add _) ⟨[], bearsL_nil, List.forall_mem_nil _, rfl⟩
  · rintro i v ys news I oI C oC Da m₂ h tk E' hi hv hp2_15 hC hx F N off ne
    refine hideL ?_; intro gg2
    obtain ⟨Xs, hb, hX, rfl⟩ := hp2_15
    k_unfold
    refine hideL ?_; intro gg3
    obtain ⟨k0, u0, hk0, rfl⟩ : ∃ k0 u0, ks[i]? = some k0 ∧ v = .str (filW ns k0) u0 := sv_pick (g := filW ns) hlk hv
    k_unfold
    have hkm : k0 < 11 := hkk k0 (List.mem_of_getElem? hk0)
    have hmo := mod_filW ns hkm
    refine hideL ?_; intro gg4
    obtain ⟨j, hj1, hj2, hj3⟩ := hmo.h
    k_unfold
    ((try k_extra "rf"); (repeat' (first | (k_extra "wb") | ((k_extra "lC"); (k_extra "wo")))))
    rename News _ _ _ _ => N
    rename Fr _ _ _ _ => F
    (try k_fold)
    refine wpAny_mono (ct_modname (X.keeps F.keep) (T.keeps F.keep) (by show ad + 15 < recursionLimit; first | exact room hroom rfl | exact room2 hroom rfl | exact room3 hroom rfl | omega) rfl (filW ns k0) u0 hmo.sm hj1 hj2 hj3 (fn_len k0) (fn_slash k0) (fn_dot k0) (fn_first k0) ?_) (fun _ _ z => z) (fun _ _ (z : False) => z.elim)
    intro h2 tk2 t2 st2
    rw [fn_letter]
    have F2 := fr_stay F st2
    have N2 := news_stay N st2
    clear F N
    ((try k_extra "rf"); (repeat' (first | (k_extra "w1") | (k_end; (k_extra "lEx"); (k_extra "vn")) | (k_extra "rq") | (k_extra "wo"))))
    rename News _ _ _ _ => N
    rename Fr _ _ _ _ => F
    rename (@LT.lt Nat _ I _ ∧ _) => bl
    refine ⟨_, _, _, rfl, F, perm_new N, off_new off ⟨bl.1, bl.2.1, bl.2.2.1⟩, .inr ⟨_, .tail _ (.tail _ (.tail _ (.tail _ (List.mem_append_right _ hm)))), rfl, _, rfl⟩, _, ?_, isL_cons hX, rfl⟩
    exact bearsL_take0 hk0 (bears_l (.head _) (bearsL_cons bears_s (bearsL_cons bears_s bearsL_nil))) (BearsL.mono (fun q hq => .tail _ hq) _ _ hb)
  · rintro ys news hp5_2 D3 h3 tk3 F N off
    refine hideL ?_; intro gg5
    obtain ⟨Xs, hb, hX, rfl⟩ := hp5_2
    k_unfold
    rw [List.take_of_length_le (by (first | exact (ch1 0 0 0 0 (Nat.le_of_eq hz2.symm) (Eq.refl true)) | omega))] at hb
    rw [lm_close] at F
    exact ret _ _ D3 ((D3, LCg.lst ys) :: Xs) ⟨F, ⟨o1, o2, o3, o4, d1, d2, d3, d4, lst_news (pre := [_]) (X := [_]) N (fun _ z => z)⟩, isL_app (isL_cons hX) hl⟩ (bears_l (.head _) (BearsL.mono (fun q hq => .tail _ (List.mem_append_left _ hq)) _ _ hb))
end TS8
section TS9
open PySem PySem.W PyProof.Rows PySem.Calls
set_option maxHeartbeats 8000000

theorem law_s9 {w : World} {A : Around} {s : Shared} {p : Program} {loose : List Str} {mean : ExcName → Option Value} {mg mb : Str → Option Value} {base h : Heap} {tk : Nat} {L fa : Addr} {cd : Value}
    (X : (Mine.top.heap_1_39 w.params).In base) (T : Top p loose mean mg mb base) (hroom : A.depth + 100 < recursionLimit) (hh : A.handled = none) (hun : A.units + 100 < cLine)
    {n : LN} {cp ch cr cf : Option Value} {W : List (Addr × Obj)} {fi : Addr} {ns : List Int} {ks : List Nat} (hfi : n.files = some (.ref fi)) (hfb : Bears W (.l (ks.map (filT ns))) (.ref fi)) (hkl : ks.length ≤ 11)
    (St : LSt base L h n cp ch cr cf W)
    {Q : Flow → Shared → Prop} (ret : ∀ h' tk' D c l, LSt base L h' { n with plain := some (.ref D) } cp ch cr cf ((D, PySem.W.listOf (strValues l).toArray c) :: W) → l.map (·.1) = ks.map (filN ns) → Q .next { s with heap := h', toks := tk' }) :
    wpAny (model PySem.Challenge.rw_aa0007_01.row.prog w) A (exec (lawSt 9) (lawEnv L fa cd)) Q noE { s with heap := h, toks := tk } := by
  (refine aro hh hroom hun ?_; clear hh hroom hun; intro ad af ag au hroom hun; obtain ⟨F, ⟨o1, o2, o3, o4, d1, d2, d3, d4, N⟩, hl⟩ := St)
  refine hideL ?_; intro gg1
  obtain ⟨script, numbers, folders, files, k, way, begn, letter, near, seen, word, close, plain, wide, told, due⟩ := n
  k_unfold
  (try dsimp only at ret)
  obtain rfl : files = _ := hfi
  (refine' st_as ?e1 ?e2 ?_; (case e1 => (conv => lhs; whnf)); (case e2 => (conv => lhs; unfold lawEnv; arg 2; whnf)); intro env' A' gg dd oo; revert X; k_fill; intro X)
  refine hideL ?_; intro gg2
  obtain ⟨its, nf, hm, hb⟩ := bears_ref hfb
  k_unfold
  refine LCg.Assign_ListComp_U (F₀ := F) (by rfl) (by with_unfolding_all rfl) (by with_unfolding_all rfl) (by decide) (by rfl) (by decide) (by rfl) (by rfl) (by rfl) ?_
  ((try k_extra "rf"); (repeat' (first | (k_extra "wb") | (k_extra "wo"))))
  rename News _ _ _ _ => N
  rename Fr _ _ _ _ => F
  refine comp_texts (filN ns) rfl F N (.tail _ (.tail _ (.tail _ (.tail _ hm)))) hb hkl ?_ ?_
  · intro k0 v lw I oI C oC D m₂ h tk E' hk0 hbv hC hx F N off ne
    refine hideL ?_; intro gg3
    obtain ⟨r, vs, nv, rfl, hmr, hbr⟩ := bears_of_l hbv
    obtain ⟨tp, hv1⟩ := bearsL_str hbr 1 (x := filP ns k0) rfl
    k_unfold
    ((try k_extra "rf"); (repeat' (first | (k_extra "wb") | ((k_extra "lS"); (k_extra "wo")))))
    rename News _ _ _ _ => N
    rename Fr _ _ _ _ => F
    refine item_list (hs := by with_unfolding_all rfl) (⟨_, (N (r, { cls := .type "list", data := .seq vs nv }) (by repeat' first | exact List.Mem.head _ | exact hmr | exact List.mem_append_right _ hmr | refine' List.Mem.tail _ ?_)).1, rfl, _, rfl⟩ : Heap.IsList _ r vs) (by first | with_reducible assumption | decide | exact Nat.le_trans (by with_reducible assumption) (Nat.le_of_ble_eq_true rfl) | omega) (by first | with_reducible assumption | decide | exact Nat.le_trans (by with_reducible assumption) (Nat.le_of_ble_eq_true rfl) | omega) hv1 ?_
    (try dsimp only)
    ((try k_extra "rf"); (repeat' (first | (k_extra "wb") | ((k_extra "lC"); (k_extra "wo")))))
    rename News _ _ _ _ => N
    rename Fr _ _ _ _ => F
    refine hideL ?_; intro gg4
    obtain ⟨cs, hpo, hnc⟩ := fil_ok ns k0
    k_unfold
    (try k_fold)
    refine wpAny_mono (ct_normpath (X.keeps F.keep) (T.keeps F.keep) (by show ad + 20 < recursionLimit; first | exact room hroom rfl | exact room2 hroom rfl | exact room3 hroom rfl | omega) rfl (filP ns k0) tp hpo.hx hpo.hne hpo.hp1 hpo.hp2 hpo.hcs hpo.hlen hpo.hcl hpo.hdd ?_) (fun _ _ z => z) (fun _ _ (z : False) => z.elim)
    intro h2 tk2 t2 st2
    rw [hnc]
    have F2 := fr_stay F st2
    have N2 := news_stay N st2
    clear F N
    (try dsimp only)
    exact ⟨_, _, _, rfl, F2, N2, rfl⟩
  · intro lw gh hlw D3 h3 tk3 F N off
    rw [lm_plain] at F
    exact ret _ _ D3 _ lw ⟨F, ⟨o1, o2, o3, o4, d1, d2, d3, d4, lst_news (pre := [_]) (X := [_]) N (fun _ z => z)⟩, isL_cons hl⟩ hlw
end TS9
section TS10
open PySem PySem.W PyProof.Rows PySem.Calls
set_option maxHeartbeats 8000000

theorem law_s10 {w : World} {A : Around} {s : Shared} {p : Program} {loose : List Str} {mean : ExcName → Option Value} {mg mb : Str → Option Value} {base h : Heap} {tk : Nat} {L fa : Addr} {cd : Value}
    (X : (Mine.top.heap_1_39 w.params).In base) (T : Top p loose mean mg mb base) (hroom : A.depth + 100 < recursionLimit) (hh : A.handled = none) (hun : A.units + 100 < cLine)
    {n : LN} {cp ch cr cf : Option Value} {W : List (Addr × Obj)} {D : Addr} {l : List (Str × Tok)} {c : Nat} {ns : List Int} {ks : List Nat} (hsr : n.plain = some (.ref D)) (hm : (D, PySem.W.listOf (strValues l).toArray c) ∈ W) (hlk : l.map (·.1) = ks.map (filN ns)) (hkl : ks.length ≤ 11) (hkk : ∀ k ∈ ks, k < 11)
    (St : LSt base L h n cp ch cr cf W)
    {Q : Flow → Shared → Prop} (ret : ∀ h' tk' D' W', LSt base L h' { n with wide := some (.ref D') } cp ch cr cf (W' ++ W) → Bears (W' ++ W) (.l (ks.map fun k => .l [.s (filN ns k), .s (letK k)])) (.ref D') → Q .next { s with heap := h', toks := tk' }) :
    wpAny (model PySem.Challenge.rw_aa0007_01.row.prog w) A (exec (lawSt 10) (lawEnv L fa cd)) Q noE { s with heap := h, toks := tk } := by
  (refine aro hh hroom hun ?_; clear hh hroom hun; intro ad af ag au hroom hun; obtain ⟨F, ⟨o1, o2, o3, o4, d1, d2, d3, d4, N⟩, hl⟩ := St)
  refine hideL ?_; intro gg1
  obtain ⟨script, numbers, folders, files, k, way, begn, letter, near, seen, word, close, plain, wide, told, due⟩ := n
  k_unfold
  (try dsimp only at ret)
  obtain rfl : plain = _ := hsr
  (refine' st_as ?e1 ?e2 ?_; (case e1 => (conv => lhs; whnf)); (case e2 => (conv => lhs; unfold lawEnv; arg 2; whnf)); intro env' A' gg dd oo; revert X; k_fill; intro X)
  have hz : l.length = ks.length := by have := congrArg List.length hlk; simpa using this
  have hz2 : (strValues l).toArray.size = ks.length := by rw [sv_size, hz]
  have z1000 : (1000 : Nat) ≤ sizeLine := by decide
  refine LCg.Assign_ListComp_U (F₀ := F) (by rfl) (by with_unfolding_all rfl) (by with_unfolding_all rfl) (by decide) (by rfl) (by decide) (by rfl) (by rfl) (by rfl) ?_
  ((try k_extra "rf"); (repeat' (first | (k_extra "wb") | (k_extra "wo"))))
  rename News _ _ _ _ => N
  rename Fr _ _ _ _ => F
  refine LCg.CompSrc.ledger (its := (strValues l).toArray) (k := c) rfl F N (.tail _ (.tail _ (.tail _ (.tail _ hm)))) (by rw [hz2]; exact Nat.le_trans hkl (by decide)) fun g => ?_
  refine comp_inv (n := (strValues l).toArray.size) (fun i ys news => ∃ X : List (Addr × Obj), BearsL X ((ks.take i).map fun k => .l [.s (filN ns k), .s (letK k)]) ys ∧ (∀ p ∈ X, IsL p.2) ∧ news = (L + 1 + 1 + 1 + 1, o4) :: (L + 1 + 1 + 1, o3) :: (L + 1 + 1, o2) :: (L + 1, o1) :: (X ++ W)) ?_ ?_ (strValues l).toArray.size 0 [] _ (Nat.zero_add _) ⟨[], bearsL_nil, List.forall_mem_nil _, rfl⟩
  · rintro i v ys news I oI C oC Da m₂ h tk E' hi hv hp2_15 hC hx F N off ne
    refine hideL ?_; intro gg2
    obtain ⟨Xs, hb, hX, rfl⟩ := hp2_15
    k_unfold
    refine hideL ?_; intro gg3
    obtain ⟨k0, u0, hk0, rfl⟩ : ∃ k0 u0, ks[i]? = some k0 ∧ v = .str (filN ns k0) u0 := sv_pick (g := filN ns) hlk hv
    k_unfold
    have hkm : k0 < 11 := hkk k0 (List.mem_of_getElem? hk0)
    have hmo := mod_filN ns k0
    refine hideL ?_; intro gg4
    obtain ⟨j, hj1, hj2, hj3⟩ := hmo.h
    k_unfold
    ((try k_extra "rf"); (repeat' (first | (k_extra "wb") | ((k_extra "lC"); (k_extra "wo")))))
    rename News _ _ _ _ => N
    rename Fr _ _ _ _ => F
    (try k_fold)
    refine wpAny_mono (ct_modname (X.keeps F.keep) (T.keeps F.keep) (by show ad + 15 < recursionLimit; first | exact room hroom rfl | exact room2 hroom rfl | exact room3 hroom rfl | omega) rfl (filN ns k0) u0 hmo.sm hj1 hj2 hj3 (fn_len k0) (fn_slash k0) (fn_dot k0) (fn_first k0) ?_) (fun _ _ z => z) (fun _ _ (z : False) => z.elim)
    intro h2 tk2 t2 st2
    rw [fn_letter]
    have F2 := fr_stay F st2
    have N2 := news_stay N st2
    clear F N
    ((try k_extra "rf"); (repeat' (first | (k_extra "w1") | (k_end; (k_extra "lEx"); (k_extra "vn")) | (k_extra "rq") | (k_extra "wo"))))
    rename News _ _ _ _ => N
    rename Fr _ _ _ _ => F
    rename (@LT.lt Nat _ I _ ∧ _) => bl
    refine ⟨_, _, _, rfl, F, perm_new N, off_new off ⟨bl.1, bl.2.1, bl.2.2.1⟩, .inr ⟨_, .tail _ (.tail _ (.tail _ (.tail _ (List.mem_append_right _ hm)))), rfl, _, rfl⟩, _, ?_, isL_cons hX, rfl⟩
    exact bearsL_take0 hk0 (bears_l (.head _) (bearsL_cons bears_s (bearsL_cons bears_s bearsL_nil))) (BearsL.mono (fun q hq => .tail _ hq) _ _ hb)
  · rintro ys news hp5_2 D3 h3 tk3 F N off
    refine hideL ?_; intro gg5
    obtain ⟨Xs, hb, hX, rfl⟩ := hp5_2
    k_unfold
    rw [List.take_of_length_le (by (first | exact (ch1 0 0 0 0 (Nat.le_of_eq hz2.symm) (Eq.refl true)) | omega))] at hb
    rw [lm_wide] at F
    exact ret _ _ D3 ((D3, LCg.lst ys) :: Xs) ⟨F, ⟨o1, o2, o3, o4, d1, d2, d3, d4, lst_news (pre := [_]) (X := [_]) N (fun _ z => z)⟩, isL_app (isL_cons hX) hl⟩ (bears_l (.head _) (BearsL.mono (fun q hq => .tail _ (List.mem_append_left _ hq)) _ _ hb))
end TS10
section TG2
open PySem PySem.W PyProof.Rows PySem.Calls
set_option maxHeartbeats 8000000

theorem slice_last (l : List (Str × Tok)) : slicePick (strValues l).toArray none (some (-1)) none = (strValues (l.take (l.length - 1))).toArray := by
  have := slicePick_butLast (strValues l).toArray 1 (by (first | exact (ch0 1 1 (Eq.refl true)) | omega))
  rw [show (-((1 : Nat) : Int)) = -1 from rfl] at this
  rw [this, sv_size]
  simp [strValues]
theorem slice_from2 (l : List (Str × Tok)) (i : Nat) : slicePick (strValues l).toArray (some (i : Int)) none none = (strValues (l.drop i)).toArray := by
  rw [slicePick_from' _ i]
  simp [strValues]

theorem up_word (l : List Str) : wd l ++ Str.ofString "/.." = wd (l ++ [Str.ofString ".."]) := by
  rw [wd_snoc]
  refine S_inj ?_
  rw [S_append, S_append, S_append, S_slash, (by decide +kernel : S (Str.ofString "/..") = [47, 46, 46]), (by decide +kernel : S (Str.ofString "..") = [46, 46])]
  simp
theorem ct_word {w : World} {A : Around} {Q : Value → Shared → Prop} {s : Shared} {p : Program} {loose : List Str} {mean : ExcName → Option Value} {mg mb : Str → Option Value} {h₀ : Heap}
    (X : (Mine.top.heap_1_39 w.params).In h₀) (T : Top p loose mean mg mb h₀) (st : Stays h₀ s.heap) (hroom : A.depth + 10 < recursionLimit) (hh : A.handled = none) (hun : A.units + 50 < cLine)
    {a b : Addr} {la lb : List (Str × Tok)} {na nb : Nat} (ha : s.heap.get? a = some (lst la na)) (hb : s.heap.get? b = some (lst lb nb)) (za : la.length ≤ 10) (zb : lb.length ≤ 10) (wa : ∀ c ∈ la.map (·.1), c.length ≤ 9) (wb : ∀ c ∈ lb.map (·.1), c.length ≤ 9) (nA : h₀.get? a = none) (nB : h₀.get? b = none)
    (ret : ∀ h' tk t, Stays s.heap h' → Q (.str (relF (la.map (·.1)) (lb.map (·.1))) t) { s with heap := h', toks := tk }) :
    wpAny (model PySem.Challenge.rw_aa0007_01.row.prog w) A (call (.ref 986) [.ref a, .ref b]) Q noE s := by
  refine aro hh hroom hun ?_
  clear hh hroom hun
  intro ad af ag au hroom hun
  revert X; k_fill; intro X
  k_dflt (refine' enterG (h₀ := h₀) (binds := [(Str.ofString "place", Value.ref a), (Str.ofString "way", Value.ref b)]) [(a, lst la na), (b, lst lb nb)] ?k1 ?k2 ?k3 ?k4 ?k6 ?k7 ?k8 ?k9 ?kB ?_ ?c5 ?c2 ?c3 ?c4; (case k4 => exact own_two ha hb nA nB); ((case k1 => assumption); (case k2 => assumption); (case k3 => assumption); (case k6 => k_is); (case k7 => k_is); (case k8 => (try dsimp only); (first | exact (ch1 11 0 1 0 hroom (Eq.refl true)) | omega)); (case k9 => first | exact BindsTo.of_eq rfl | exact binds_K (Frag.In.keeps (by assumption) (by assumption)) rfl (by k_is) rfl rfl rfl); (case c5 => decide); (case kB => exact locs rfl); (case c2 => exact rfl); (case c3 => exact rfl); (case c4 => exact rfl)))
  intro g h₁ Xg Tg sg kept hsz F N
  (try k_extra "en")
  have zas : (strValues la).toArray.size ≤ 10 := by rw [sv_size]; exact za
  have zbs : (strValues lb).toArray.size ≤ 10 := by rw [sv_size]; exact zb
  ((try k_extra "rf"); (repeat' (first | (k_extra "v0") | (k_extra "wn") | ((k_extra "ge"); (k_extra "ve")) | ((k_extra "gx"); (k_extra "lW"); (k_extra "vx")) | (k_extra "rq") | ((k_extra "lW"); (k_extra "wo")))))
  rename News _ _ _ _ => N
  rename Fr _ _ _ _ => F
  refine while_ (fun n s' => ∃ h tk D nn tw, s' = { s with heap := h, toks := tk } ∧ Fr g s.heap.objs.size h (fun y => if y = Str.ofString "word" then some (Value.str (wd (List.replicate (la.length - n) (Str.ofString ".."))) tw) else if y = Str.ofString "at" then some (.ref D) else List.lookup y [(Str.ofString "place", Value.ref a), (Str.ofString "way", Value.ref b)].reverse)
    ∧ News g s.heap.objs.size h [(D, lst (la.take n) nn), (a, lst la na), (b, lst lb nb)] ∧ n ≤ la.length ∧ (n < la.length → (lb.map (·.1)).take (n + 1) ≠ (la.map (·.1)).take (n + 1))) ?_ la.length ?_
  · rintro n s' hp1_2
    refine hideL ?_; intro gg1
    obtain ⟨h, tk, D, nn, tw, rfl, F, N, hn, hnx⟩ := hp1_2
    k_unfold
    have zl : (la.take n).length = n := by rw [List.length_take]; exact Nat.min_eq_left hn
    have zD : (strValues (la.take n)).toArray.size = n := by rw [sv_size, zl]
    have zD2 : (strValues (la.take n)).toArray.size ≤ 10 := by rw [zD]; exact Nat.le_trans hn za
    have zW : (wd (List.replicate (la.length - n) (Str.ofString ".."))).length ≤ 100 := by
      have := wd_len (k := 2) (List.replicate (la.length - n) (Str.ofString "..")) (fun c hc => by rw [List.eq_of_mem_replicate hc]; decide +kernel)
      rw [List.length_replicate] at this; exact wl3 this za
    ((try k_extra "rf"); (repeat' (first | (k_extra "wb") | ((k_extra "lE"); (k_extra "wo")))))
    rename News _ _ _ _ => N
    rename Fr _ _ _ _ => F
    have hN1 := N.isList (.head _)
    have hN2 := N.isList (.tail _ (.head _))
    dsimp only at hN1 hN2
    rw [slice_upto2] at hN1
    refine ne_textsN hN1 hN2 List.map_take List.map_take (by show au + 3 < cLine; first | exact room hun rfl | exact room2 hun rfl | exact room3 hun rfl | omega) ?_
    clear hN1 hN2
    replace N := news_tail N
    by_cases e1 : (lb.map (·.1)).take n = (la.map (·.1)).take n
    · have q1 : ¬ ((!decide ((lb.map (·.1)).take n = (la.map (·.1)).take n)) = true) := by rw [decide_eq_true e1]; exact Bool.false_ne_true
      have hj : (cpre (la.map (·.1)) (lb.map (·.1))).length = n := cpre_down _ _ n (by simpa using hn) e1 (by simpa using hnx)
      ((try k_extra "rf"); (repeat' (first | (k_extra "v0") | (k_extra "wn") | ((k_extra "ge"); (k_extra "ve")) | ((k_extra "gx"); (k_extra "lF"); (k_extra "vx")) | (k_extra "rq") | ((k_extra "lF"); (k_extra "wo")))))
      rename News _ _ _ _ => N
      rename Fr _ _ _ _ => F
      have zl2 : (lb.drop n).length ≤ 10 := by rw [List.length_drop]; exact Nat.le_trans (Nat.sub_le _ _) zb
      have zl3 : (strValues (lb.drop n)).toArray.size ≤ 10 := by rw [sv_size]; exact zl2
      have wmem : ∀ c ∈ (lb.drop n).map (·.1), c.length ≤ 9 := fun c hc => wb c (by rw [List.map_drop] at hc; exact List.mem_of_mem_drop hc)
      refine for_list2 (hs := by intro _; rfl) (P := fun l B i m nw => ∃ c tw, m = (fun y => if y = Str.ofString "name" then c else if y = Str.ofString "word" then some (Value.str (wd (List.replicate (la.length - n) (Str.ofString "..") ++ ((lb.drop n).map (·.1)).take i)) tw) else if y = Str.ofString "at" then some (.ref D) else List.lookup y [(Str.ofString "place", Value.ref a), (Str.ofString "way", Value.ref b)].reverse) ∧ nw = [(l, lst (lb.drop n) 0), (D, lst (la.take n) nn), (a, lst la na), (b, lst lb nb)])
        (h₀ := g) (items := (strValues (lb.drop n)).toArray) rfl rfl rfl ?_ ?_ ?_ ?_
      · rintro l B i m nw h hp2_6 _ Nh
        refine hideL ?_; intro gg2
        obtain ⟨c, tw, rfl, rfl⟩ := hp2_6
        k_unfold
        exact Nh.isList (.head _)
      · ((try k_extra "rf"); (repeat' (first | (k_extra "w1") | (k_end; (k_extra "lEx"); (k_extra "vn")) | (k_extra "rq") | (k_extra "wo"))))
        (try dsimp only)
        rename News _ _ _ _ => N
        rename Fr _ _ _ _ => F
        dsimp only at F N
        rw [slice_from2] at N
        refine ⟨_, _, _, _, _, rfl, rfl, F, N, none, tw, funext fun y => ?_, rfl⟩
        by_cases e : y = Str.ofString "name"
        · subst e; rfl
        · rw [if_neg e, List.take_zero, List.append_nil]
      · rintro l i v m nw h tk I oI hv hp3_10 hne F N
        refine hideL ?_; intro gg3
        obtain ⟨c0, tw, rfl, rfl⟩ := hp3_10
        k_unfold
        replace F : Fr g s.heap.objs.size h _ := F
        replace N : News g s.heap.objs.size h _ := N
        dsimp only at F
        rw [same_name] at F
        obtain ⟨c, u, hci, rfl⟩ : ∃ c u, ((lb.drop n).map (·.1))[i]? = some c ∧ v = .str c u := by
          have e := sv_get (lb.drop n) i
          rw [Int.toNat_natCast, hv] at e
          cases hg : (lb.drop n)[i]? with
          | none => rw [hg] at e; cases e
          | some cu => rw [hg] at e; exact ⟨cu.1, cu.2, by rw [List.getElem?_map, hg]; rfl, Option.some.inj e⟩
        have zc : c.length ≤ 9 := wmem c (List.mem_of_getElem? hci)
        have zW2 : (wd (List.replicate (la.length - n) (Str.ofString "..") ++ ((lb.drop n).map (·.1)).take i)).length ≤ 1000 := by
          have := wd_len (k := 9) (List.replicate (la.length - n) (Str.ofString "..") ++ ((lb.drop n).map (·.1)).take i) (fun c hc => by
            rcases List.mem_append.mp hc with h | h
            · rw [List.eq_of_mem_replicate h]; decide +kernel
            · exact wmem c (List.mem_of_mem_take h))
          rw [List.length_append, List.length_replicate, List.length_take, List.length_map] at this
          exact wl2 this za zl2
        ((try k_extra "rf"); (repeat' (first | (k_extra "w1") | (k_end; (k_extra "lAn"); (k_extra "vn")) | (k_extra "rq") | (k_extra "wo"))))
        rename News _ _ _ _ => N
        rename Fr _ _ _ _ => F
        (try dsimp only)
        rename_i tw2 kk2 hh2
        refine ⟨.inl rfl, _, _, _, _, rfl, F, N, hne, some (.str c u), tw2, funext fun y => ?_, rfl⟩
        rw [List.take_add_one, hci, Option.toList_some, ← List.append_assoc, wd_snoc]
        by_cases e1 : y = Str.ofString "name"
        · subst e1; rfl
        · by_cases e2 : y = Str.ofString "word"
          · subst e2; rfl
          · simp only [if_neg e1, if_neg e2]
      · rintro l B h tk m nw F N hp4_8
        refine hideL ?_; intro gg4
        obtain ⟨c, tw, rfl, rfl⟩ := hp4_8
        k_unfold
        replace F : Fr g s.heap.objs.size h _ := F
        replace N : News g s.heap.objs.size h _ := N
        (try dsimp only at F)
        rw [sv_size, List.take_of_length_le (by rw [List.length_map]; exact Nat.le_refl _)] at F
        have hrel : List.replicate (la.length - n) (Str.ofString "..") ++ (lb.drop n).map (·.1) = rel (la.map (·.1)) (lb.map (·.1)) := by
          unfold rel; rw [hj, List.length_map, List.map_drop]
        rw [hrel] at F
        have fin : ∀ h', Stays g h' → News g s.heap.objs.size h' [(l, lst (lb.drop n) 0), (D, lst (la.take n) nn), (a, lst la na), (b, lst lb nb)] → Stays s.heap h' :=
          fun h' k N => stays_two (kept _ k) ha hb (N _ (.tail _ (.tail _ (.head _)))).1 (N _ (.tail _ (.tail _ (.tail _ (.head _))))).1
        have zW3 : (wd (rel (la.map (·.1)) (lb.map (·.1)))).length ≤ 1000 := by
          have := wd_len (k := 9) (rel (la.map (·.1)) (lb.map (·.1))) (fun c hc => by
            rcases List.mem_append.mp hc with h | h
            · rw [List.eq_of_mem_replicate h]; decide +kernel
            · exact wb c (List.mem_of_mem_drop h))
          rw [List.length_append, List.length_replicate, List.length_drop, List.length_map, List.length_map] at this
          exact wl1 this za zb
        by_cases e : rel (la.map (·.1)) (lb.map (·.1)) = []
        · have q2 : ¬ ((wd (rel (la.map (·.1)) (lb.map (·.1))) != Str.ofString "") = true) := by rw [e]; simp [wd]
          have er : relF (la.map (·.1)) (lb.map (·.1)) = Str.ofString "." := by rw [relF_is, if_pos e]
          (try dsimp only)
          ((try k_extra "rf"); (repeat' (first | (k_extra "wb") | (k_extra "wo"))))
          (try dsimp only)
          rename News _ _ _ _ => N
          rename Fr _ _ _ _ => F
          exact val_eq (Q := Q) (congrArg (fun z => Value.str z _) er) (ret _ _ _ (fin _ F.keep N))
        · have q2 : (wd (rel (la.map (·.1)) (lb.map (·.1))) != Str.ofString "") = true := by simpa using wd_ne e
          have er : relF (la.map (·.1)) (lb.map (·.1)) = Txt.slice (wd (rel (la.map (·.1)) (lb.map (·.1)))) (some 1) none := by rw [wd_tail e, relF_is, if_neg e]
          (try dsimp only)
          ((try k_extra "rf"); (repeat' (first | (k_extra "wb") | (k_extra "wo"))))
          (try dsimp only)
          rename News _ _ _ _ => N
          rename Fr _ _ _ _ => F
          exact val_eq (Q := Q) (congrArg (fun z => Value.str z _) er) (ret _ _ _ (fin _ F.keep N))
    · have q1 : (!decide ((lb.map (·.1)).take n = (la.map (·.1)).take n)) = true := by rw [decide_eq_false e1]; rfl
      have n0 : 0 < n := by
        rcases Nat.eq_zero_or_pos n with h | h
        · subst h; exact absurd rfl e1
        · exact h
      ((try k_extra "rf"); (repeat' (first | (k_extra "w1") | (k_end; (k_extra "lEx"); (k_extra "vn")) | (k_extra "rq") | (k_extra "wo"))))
      (try dsimp only)
      rename News _ _ _ _ => N
      rename Fr _ _ _ _ => F
      dsimp only at F N
      rw [slice_last, zl, List.take_take, Nat.min_eq_left (by (first | exact (lin1 2 [_, _] 0 (.v 0) (.v 1) 1 (.v 0) (.v 1) (Nat.sub_le _ _) rfl (Eq.refl true)) | omega))] at N
      rw [up_word, ← List.replicate_succ', sub_pred hn (by first | with_reducible assumption | decide | exact Nat.le_trans (by with_reducible assumption) (Nat.le_of_ble_eq_true rfl) | omega)] at F
      rename_i tw2 kk2 hh2
      refine ⟨n - 1, by (first | exact (lin1 2 [_, _] 0 (.a (.v 0) (.k 1)) (.v 1) 1 (.a (.v 0) (.k 1)) (.v 1) (Nat.le_of_eq (Nat.sub_add_cancel (lin1 1 [_] 0 (.k 1) (.v 0) 1 (.a (.k 0) (.k 1)) (.v 0) n0 rfl (Eq.refl true)))) rfl (Eq.refl true)) | omega), _, _, _, 0, tw2, rfl, Fr.look F fun y => ?_, List.forall_mem_cons.mpr ⟨N _ (.head _), news_tail (news_tail N)⟩, by (first | exact (lin2 3 [_, _, _] 0 (.v 0) (.v 1) 1 (.v 2) (.v 1) 1 (.v 0) (.v 2) hn (Nat.sub_le _ _) rfl (Eq.refl true)) | omega), fun _ z => e1 (by rwa [show n - 1 + 1 = n by (first | exact (Nat.le_antisymm (lin1 2 [_, _] 0 (.a (.v 0) (.k 1)) (.v 1) 1 (.a (.v 0) (.k 1)) (.v 1) (Nat.le_of_eq (Nat.sub_add_cancel (lin1 1 [_] 0 (.k 1) (.v 0) 1 (.a (.k 0) (.k 1)) (.v 0) n0 rfl (Eq.refl true)))) rfl (Eq.refl true)) (lin1 2 [_, _] 0 (.v 0) (.a (.v 1) (.k 1)) 1 (.v 0) (.a (.v 1) (.k 1)) (Nat.le_add_of_sub_le (Nat.le_refl _)) rfl (Eq.refl true))) | omega)] at z)⟩
      by_cases e2 : y = Str.ofString "word"
      · simp only [if_pos e2]
      · by_cases e3 : y = Str.ofString "at"
        · simp only [if_neg e2, if_pos e3]
        · simp only [if_neg e2, if_neg e3]
  · exact ⟨_, _, a, na, _, rfl, by rw [Nat.sub_self]; exact F, by rw [List.take_length]; exact List.forall_mem_cons.mpr ⟨N _ (.head _), N⟩, Nat.le_refl _, fun z => absurd z (Nat.lt_irrefl _)⟩
end TG2
section TS14
open PySem PySem.W PyProof.Rows PySem.Calls
set_option maxHeartbeats 8000000

theorem law_s14 {w : World} {A : Around} {s : Shared} {p : Program} {loose : List Str} {mean : ExcName → Option Value} {mg mb : Str → Option Value} {base h : Heap} {tk : Nat} {L fa : Addr} {cd : Value}
    (X : (Mine.top.heap_1_39 w.params).In base) (T : Top p loose mean mg mb base) (hroom : A.depth + 100 < recursionLimit) (hh : A.handled = none) (hun : A.units + 100 < cLine)
    {n : LN} {cp ch cr cf : Option Value} {W : List (Addr × Obj)} {fi pl : Addr} {lp : List (Str × Tok)} {np : Nat} {ns : List Int} {fs : List Nat} (hfi : n.files = some (.ref fi)) (hfb : Bears W (.l (fs.map (filT ns))) (.ref fi)) (hfl : fs.length ≤ 11) (hff : ∀ k ∈ fs, k < 11)
    (hcp : cp = some (.ref pl)) (hpl : (pl, PySem.W.listOf (strValues lp).toArray np) ∈ W) (hlp : lp.map (·.1) = placeF ns)
    (St : LSt base L h n cp ch cr cf W)
    {Q : Flow → Shared → Prop} (ret : ∀ h' tk' du vs nd X, LSt base L h' { n with due := some (.ref du) } cp ch cr cf ((du, PySem.W.listOf vs nd) :: (X ++ W)) → vs.size = 2 → BearsL (X ++ W) [.l (fs.map fun k => .l [.s (filW ns k), .s (letK k)]), .l (fs.map fun k => .l [.s (filN ns k), .s (letK k)])] vs.toList → (∀ p ∈ X ++ W, @Ne Nat p.1 du) → @LT.lt Nat _ (L + 4) du → Q .next { s with heap := h', toks := tk' }) :
    wpAny (model PySem.Challenge.rw_aa0007_01.row.prog w) A (exec (lawSt 14) (lawEnv L fa cd)) Q noE { s with heap := h, toks := tk } := by
  (refine aro hh hroom hun ?_; clear hh hroom hun; intro ad af ag au hroom hun; obtain ⟨F, ⟨o1, o2, o3, o4, d1, d2, d3, d4, N⟩, hl⟩ := St)
  refine hideL ?_; intro gg1
  obtain ⟨script, numbers, folders, files, k, way, begn, letter, near, seen, word, close, plain, wide, told, due⟩ := n
  k_unfold
  (try dsimp only at ret)
  obtain rfl : files = _ := hfi
  subst hcp
  (refine' st_as ?e1 ?e2 ?_; (case e1 => (conv => lhs; whnf)); (case e2 => (conv => lhs; unfold lawEnv; arg 2; whnf)); intro env' A' gg dd oo; revert X; k_fill; intro X)
  refine hideL ?_; intro gg2
  obtain ⟨its, nf, hm, hb⟩ := bears_ref hfb
  k_unfold
  have hz : its.size = fs.length := by rw [← Array.length_toList, bearsL_len hb, List.length_map]
  have z1000 : (1000 : Nat) ≤ sizeLine := by decide
  have hzp : lp.length ≤ 3 := by have h1 := congrArg List.length hlp; rw [List.length_map] at h1; have := placeF_len ns; (first | exact (ch2 0 0 0 3 0 3 (Nat.le_of_eq h1) this (Eq.refl true)) | omega)
  ((try k_extra "rf"); (repeat' (first | (k_extra "v0") | (k_extra "wn") | ((k_extra "ge"); (k_extra "lL"); (k_extra "ve")) | ((k_extra "gx"); (k_extra "vx")) | (k_extra "rq") | ((k_extra "lL"); (k_extra "wo")))))
  rename News _ _ _ _ => N
  rename Fr _ _ _ _ => F
  refine LCg.ListComp_U (F₀ := F) (by with_unfolding_all rfl) (by decide) (by rfl) (by decide) (by rfl) ?_
  ((try k_extra "rf"); (repeat' (first | (k_extra "wb") | (k_extra "wo"))))
  rename News _ _ _ _ => N
  rename Fr _ _ _ _ => F
  refine LCg.CompSrc.ledger (its := its) (k := nf) rfl F N (by repeat' first | exact List.Mem.head _ | exact hm | exact List.mem_append_right _ hm | refine' List.Mem.tail _ ?_) (by rw [hz]; exact Nat.le_trans hfl (by decide)) fun g => ?_
  refine comp_inv (n := its.size) (fun i ys news => ∃ X : List (Addr × Obj), BearsL (X ++ W) ((fs.take i).map fun k => .l [.s (filW ns k), .s (letK k)]) ys ∧ (∀ p ∈ X, IsL p.2) ∧ news = (L + 1 + 1 + 1 + 1, o4) :: (L + 1 + 1 + 1, o3) :: (L + 1 + 1, o2) :: (L + 1, o1) :: (X ++ W)) ?_ ?_ its.size 0 [] _ (Nat.zero_add _) ⟨[], bearsL_nil, List.forall_mem_nil _, rfl⟩
  · rintro i v ys news I oI C oC Da m₂ h tk E' hi hv hp3_15 hC hx F N off ne
    refine hideL ?_; intro gg3
    obtain ⟨Xs, hbx, hX, rfl⟩ := hp3_15
    k_unfold
    obtain ⟨tr, htr, hbv⟩ := bearsL_get hb i v (by rw [Array.getElem?_toList]; exact hv)
    refine hideL ?_; intro gg4
    obtain ⟨k0, hk0, rfl⟩ : ∃ k0, fs[i]? = some k0 ∧ tr = filT ns k0 := map_get htr
    k_unfold
    have hkm : k0 < 11 := hff k0 (List.mem_of_getElem? hk0)
    refine hideL ?_; intro gg5
    obtain ⟨r, vs, nv, rfl, hmr, hbr⟩ := bears_of_l hbv
    obtain ⟨a0, na, l0, hv0, hma, hl1⟩ := bearsL_lst hbr 0 (xs := fwK ns k0) rfl
    obtain ⟨tq, hv2⟩ := bearsL_str hbr 2 (x := letK k0) rfl
    k_unfold
    have hz0 : l0.length ≤ 4 := by have h1 := congrArg List.length hl1; rw [List.length_map] at h1; have := fwK_len ns k0; (first | exact (ch2 0 0 0 4 0 4 (Nat.le_of_eq h1) this (Eq.refl true)) | omega)
    ((try k_extra "rf"); (repeat' (first | (k_extra "wb") | ((k_extra "lS"); (k_extra "wo")))))
    rename News _ _ _ _ => N
    rename Fr _ _ _ _ => F
    refine item_list (hs := by with_unfolding_all rfl) (⟨_, (N (r, { cls := .type "list", data := .seq vs nv }) (by repeat' first | exact List.Mem.head _ | exact hmr | exact List.mem_append_right _ hmr | refine' List.Mem.tail _ ?_)).1, rfl, _, rfl⟩ : Heap.IsList _ r vs) (by first | with_reducible assumption | decide | exact Nat.le_trans (by with_reducible assumption) (Nat.le_of_ble_eq_true rfl) | omega) (by first | with_reducible assumption | decide | exact Nat.le_trans (by with_reducible assumption) (Nat.le_of_ble_eq_true rfl) | omega) hv0 ?_
    (try dsimp only)
    ((try k_extra "rf"); (repeat' (first | (k_extra "wb") | ((k_extra "lC"); (k_extra "wo")))))
    rename News _ _ _ _ => N
    rename Fr _ _ _ _ => F
    have n1 := N (pl, PySem.W.listOf (strValues lp).toArray np) (by repeat' first | exact List.Mem.head _ | exact hpl | exact List.mem_append_right _ hpl | refine' List.Mem.tail _ ?_)
    have n2 := N (a0, PySem.W.listOf (strValues l0).toArray na) (by repeat' first | exact List.Mem.head _ | exact hma | exact List.mem_append_right _ hma | refine' List.Mem.tail _ ?_)
    (try k_fold)
    refine wpAny_mono (ct_word (h₀ := base) X T F.keep (by show ad + 10 < recursionLimit; first | exact room hroom rfl | exact room2 hroom rfl | exact room3 hroom rfl | omega) rfl (by show au + 50 < cLine; first | exact room hun rfl | exact room2 hun rfl | exact room3 hun rfl | omega) n1.1 n2.1 (by (first | exact (ch1 0 3 0 10 hzp (Eq.refl true)) | omega)) (by (first | exact (ch1 0 4 0 10 hz0 (Eq.refl true)) | omega)) (fun c hc => by rw [hlp] at hc; exact (placeF_good ns c hc).sm) (fun c hc => by rw [hl1] at hc; exact (fwK_good ns k0 c hc).sm) n1.2.2 n2.2.2 ?_) (fun _ _ z => z) (fun _ _ (z : False) => z.elim)
    intro h2 tk2 t2 st2
    rw [hlp, hl1]
    have F2 := fr_stay F st2
    have N2 := news_stay N st2
    clear F N n1 n2
    ((try k_extra "rf"); (repeat' (first | (k_extra "wb") | ((k_extra "lS"); (k_extra "wo")))))
    rename News _ _ _ _ => N
    rename Fr _ _ _ _ => F
    refine item_list (hs := by with_unfolding_all rfl) (⟨_, (N (r, { cls := .type "list", data := .seq vs nv }) (by repeat' first | exact List.Mem.head _ | exact hmr | exact List.mem_append_right _ hmr | refine' List.Mem.tail _ ?_)).1, rfl, _, rfl⟩ : Heap.IsList _ r vs) (by first | with_reducible assumption | decide | exact Nat.le_trans (by with_reducible assumption) (Nat.le_of_ble_eq_true rfl) | omega) (by first | with_reducible assumption | decide | exact Nat.le_trans (by with_reducible assumption) (Nat.le_of_ble_eq_true rfl) | omega) hv2 ?_
    (try dsimp only)
    ((try k_extra "rf"); (repeat' (first | (k_extra "w1") | (k_end; (k_extra "lEx"); (k_extra "vn")) | (k_extra "rq") | (k_extra "wo"))))
    rename News _ _ _ _ => N
    rename Fr _ _ _ _ => F
    rename (@LT.lt Nat _ I _ ∧ _) => bl
    refine ⟨_, _, _, rfl, F, perm_new N, off_new off ⟨bl.1, bl.2.1, bl.2.2.1⟩, .inr ⟨{ cls := .type "list", data := .seq its nf }, (by repeat' first | exact List.Mem.head _ | exact hm | exact List.mem_append_right _ hm | refine' List.Mem.tail _ ?_), rfl, _, rfl⟩, _, ?_, isL_cons hX, rfl⟩
    exact bearsL_take0 hk0 (bears_l (.head _) (bearsL_cons bears_s (bearsL_cons bears_s bearsL_nil))) (BearsL.mono (fun q hq => .tail _ hq) _ _ hbx)
  · rintro ys news hp6_2 D3 h3 tk3 F N off
    refine hideL ?_; intro gg6
    obtain ⟨Xs, hbx, hX, rfl⟩ := hp6_2
    k_unfold
    rw [List.take_of_length_le (by (first | exact (ch1 0 0 0 0 (Nat.le_of_eq hz.symm) (Eq.refl true)) | omega))] at hbx
    have N1 : News base L h3 ((L + 1 + 1 + 1 + 1, o4) :: (L + 1 + 1 + 1, o3) :: (L + 1 + 1, o2) :: (L + 1, o1) :: ((D3, LCg.lst ys) :: Xs ++ W)) := lst_news (pre := [_]) (X := [_]) N (fun _ z => z)
    have sub1 : ∀ q ∈ Xs ++ W, q ∈ (D3, LCg.lst ys) :: Xs ++ W := fun q hq => .tail _ hq
    have hbx1 : Bears ((D3, LCg.lst ys) :: Xs ++ W) (.l (fs.map fun k => .l [.s (filW ns k), .s (letK k)])) (.ref D3) := bears_l (.head _) (BearsL.mono sub1 _ _ hbx)
    have hX1 : ∀ p ∈ (D3, LCg.lst ys) :: Xs, IsL p.2 := isL_cons hX
    clear N hbx hX sub1
    generalize (D3, LCg.lst ys) :: Xs = X1 at N1 hbx1 hX1
    generalize hWW : X1 ++ W = WW at N1 hbx1
    have hm1 : (fi, ({ cls := .type "list", data := .seq its nf } : Obj)) ∈ WW := by rw [← hWW]; exact List.mem_append_right _ hm
    have hb1 := BearsL.mono (W' := WW) (fun q hq => by rw [← hWW]; exact List.mem_append_right _ hq) _ _ hb
    clear hm hb hfb
    rename _ ∈ WW => hm
    rename BearsL WW _ _ => hb
    ((try k_extra "rf"); (repeat' (first | (k_extra "v0") | (k_extra "wn") | ((k_extra "ge"); (k_extra "lL"); (k_extra "ve")) | ((k_extra "gx"); (k_extra "vx")) | (k_extra "rq") | ((k_extra "lL"); (k_extra "wo")))))
    rename News _ _ _ _ => N
    rename Fr _ _ _ _ => F
    refine LCg.ListComp_U (F₀ := F) (by with_unfolding_all rfl) (by decide) (by rfl) (by decide) (by rfl) ?_
    ((try k_extra "rf"); (repeat' (first | (k_extra "wb") | (k_extra "wo"))))
    rename News _ _ _ _ => N
    rename Fr _ _ _ _ => F
    refine LCg.CompSrc.ledger (its := its) (k := nf) rfl F N (by repeat' first | exact List.Mem.head _ | exact hm | exact List.mem_append_right _ hm | refine' List.Mem.tail _ ?_) (by rw [hz]; exact Nat.le_trans hfl (by decide)) fun g => ?_
    refine comp_inv (n := its.size) (fun i ys news => ∃ X : List (Addr × Obj), BearsL (X ++ WW) ((fs.take i).map fun k => .l [.s (filN ns k), .s (letK k)]) ys ∧ (∀ p ∈ X, IsL p.2) ∧ news = (L + 1 + 1 + 1 + 1, o4) :: (L + 1 + 1 + 1, o3) :: (L + 1 + 1, o2) :: (L + 1, o1) :: (X ++ WW)) ?_ ?_ its.size 0 [] _ (Nat.zero_add _) ⟨[], bearsL_nil, List.forall_mem_nil _, rfl⟩
    · rintro i v ys news I oI C oC Da m₂ h tk E' hi hv hp7_15 hC hx F N off ne
      refine hideL ?_; intro gg7
      obtain ⟨Xs, hbx, hX, rfl⟩ := hp7_15
      k_unfold
      obtain ⟨tr, htr, hbv⟩ := bearsL_get hb i v (by rw [Array.getElem?_toList]; exact hv)
      refine hideL ?_; intro gg8
      obtain ⟨k0, hk0, rfl⟩ : ∃ k0, fs[i]? = some k0 ∧ tr = filT ns k0 := map_get htr
      k_unfold
      have hkm : k0 < 11 := hff k0 (List.mem_of_getElem? hk0)
      refine hideL ?_; intro gg9
      obtain ⟨r, vs, nv, rfl, hmr, hbr⟩ := bears_of_l hbv
      obtain ⟨a0, na, l0, hv0, hma, hl1⟩ := bearsL_lst hbr 0 (xs := fwK ns k0) rfl
      obtain ⟨tq, hv2⟩ := bearsL_str hbr 2 (x := letK k0) rfl
      k_unfold
      have hz0 : l0.length ≤ 4 := by have h1 := congrArg List.length hl1; rw [List.length_map] at h1; have := fwK_len ns k0; (first | exact (ch2 0 0 0 4 0 4 (Nat.le_of_eq h1) this (Eq.refl true)) | omega)
      ((try k_extra "rf"); (repeat' (first | (k_extra "wb") | ((k_extra "lS"); (k_extra "wo")))))
      rename News _ _ _ _ => N
      rename Fr _ _ _ _ => F
      refine item_list (hs := by with_unfolding_all rfl) (⟨_, (N (r, { cls := .type "list", data := .seq vs nv }) (by repeat' first | exact List.Mem.head _ | exact hmr | exact List.mem_append_right _ hmr | refine' List.Mem.tail _ ?_)).1, rfl, _, rfl⟩ : Heap.IsList _ r vs) (by first | with_reducible assumption | decide | exact Nat.le_trans (by with_reducible assumption) (Nat.le_of_ble_eq_true rfl) | omega) (by first | with_reducible assumption | decide | exact Nat.le_trans (by with_reducible assumption) (Nat.le_of_ble_eq_true rfl) | omega) hv0 ?_
      (try dsimp only)
      ((try k_extra "rf"); (repeat' (first | (k_extra "wb") | ((k_extra "lB"); (k_extra "wo")))))
      rename News _ _ _ _ => N
      rename Fr _ _ _ _ => F
      have zj := join_small (fwK ns k0) (fun x hx => (fwK_good ns k0 x hx).sm) (by have := fwK_len ns k0; (first | exact (ch1 0 4 0 20 this (Eq.refl true)) | omega))
      refine SC.join (⟨_, (N (a0, PySem.W.listOf (strValues l0).toArray na) (by repeat' first | exact List.Mem.head _ | exact hma | exact List.mem_append_right _ hma | refine' List.Mem.tail _ ?_)).1, rfl, _, rfl⟩ : Heap.IsList _ a0 (strValues l0).toArray) hl1 (joinOk_of_weight (wt_of (m := 4) (fun x hx => (fwK_good ns k0 x hx).sm) (fwK_len ns k0) rfl) (by decide)) ?_
      intro tj kj
      (try dsimp only)
      ((try k_extra "rf"); (repeat' (first | (k_extra "wb") | ((k_extra "lS"); (k_extra "wo")))))
      rename News _ _ _ _ => N
      rename Fr _ _ _ _ => F
      refine item_list (hs := by with_unfolding_all rfl) (⟨_, (N (r, { cls := .type "list", data := .seq vs nv }) (by repeat' first | exact List.Mem.head _ | exact hmr | exact List.mem_append_right _ hmr | refine' List.Mem.tail _ ?_)).1, rfl, _, rfl⟩ : Heap.IsList _ r vs) (by first | with_reducible assumption | decide | exact Nat.le_trans (by with_reducible assumption) (Nat.le_of_ble_eq_true rfl) | omega) (by first | with_reducible assumption | decide | exact Nat.le_trans (by with_reducible assumption) (Nat.le_of_ble_eq_true rfl) | omega) hv2 ?_
      (try dsimp only)
      ((try k_extra "rf"); (repeat' (first | (k_extra "w1") | (k_end; (k_extra "lEx"); (k_extra "vn")) | (k_extra "rq") | (k_extra "wo"))))
      rename News _ _ _ _ => N
      rename Fr _ _ _ _ => F
      rename (@LT.lt Nat _ I _ ∧ _) => bl
      refine ⟨_, _, _, rfl, F, perm_new N, off_new off ⟨bl.1, bl.2.1, bl.2.2.1⟩, .inr ⟨{ cls := .type "list", data := .seq its nf }, (by repeat' first | exact List.Mem.head _ | exact hm | exact List.mem_append_right _ hm | refine' List.Mem.tail _ ?_), rfl, _, rfl⟩, _, ?_, isL_cons hX, rfl⟩
      exact bearsL_take0 hk0 (bears_l (.head _) (bearsL_cons bears_s (bearsL_cons bears_s bearsL_nil))) (BearsL.mono (fun q hq => .tail _ hq) _ _ hbx)
    · rintro ys2 news hp10_2 D4 h4 tk4 F N off
      refine hideL ?_; intro gg10
      obtain ⟨Xs2, hbx2, hX2, rfl⟩ := hp10_2
      k_unfold
      rw [List.take_of_length_le (by (first | exact (ch1 0 0 0 0 (Nat.le_of_eq hz.symm) (Eq.refl true)) | omega))] at hbx2
      ((try k_extra "rf"); (repeat' (first | (k_extra "w1") | (k_end; (k_extra "lAn"); (k_extra "vn")) | (k_extra "rq") | (k_extra "wo"))))
      ((try dsimp only); rename News _ _ _ _ => N; rename Fr _ _ _ _ => F; (try dsimp only at F N))
      rename (@LT.lt Nat _ D4 _ ∧ _) => bl
      rename Addr => du
      rw [lm_due] at F
      have e : ((D4, LCg.lst ys2) :: (Xs2 ++ X1)) ++ W = (D4, LCg.lst ys2) :: (Xs2 ++ WW) := by rw [← hWW, List.cons_append, List.append_assoc]
      have ret2 := fun h' tk' => ret h' tk' du #[.ref D3, .ref D4] 0 ((D4, LCg.lst ys2) :: (Xs2 ++ X1))
      simp only [e] at ret2
      have hXX : ∀ p ∈ (D4, LCg.lst ys2) :: (Xs2 ++ WW), IsL p.2 := isL_cons (isL_app hX2 (by rw [← hWW]; exact isL_app hX1 hl))
      refine ret2 _ _ ⟨F, ⟨o1, o2, o3, o4, d1, d2, d3, d4, lst_news (pre := [_, _]) (X := [_, _]) N (fun _ z => z)⟩, isL_cons hXX⟩ rfl ?_ ?_ bl.2.1
      · exact bearsL_cons (Bears.mono (fun q hq => .tail _ (List.mem_append_right _ hq)) _ _ hbx1) (bearsL_cons (bears_l (.head _) (BearsL.mono (fun q hq => .tail _ hq) _ _ hbx2)) bearsL_nil)
      · refine List.forall_mem_cons.mpr ⟨Nat.ne_of_lt bl.1, fun p hp => Nat.ne_of_lt (allLt_mem bl.2.2.2.2.2 p hp)⟩
end TS14
section TS15
open PySem PySem.W PyProof.Rows PySem.Calls
set_option maxHeartbeats 8000000

theorem nearF_sm (P D W : List Str) : (nearF P D W).length ≤ 1 := by unfold nearF; repeat' split
                                                                     all_goals decide +kernel
theorem farF_sm (D W : List Str) : (farF D W).length ≤ 1 := by unfold farF; split <;> decide +kernel

theorem law_s15 {w : World} {A : Around} {s : Shared} {p : Program} {loose : List Str} {mean : ExcName → Option Value} {mg mb : Str → Option Value} {base h : Heap} {tk : Nat} {L fa : Addr} {cd : Value}
    (X : (Mine.top.heap_1_39 w.params).In base) (T : Top p loose mean mg mb base) (hroom : A.depth + 100 < recursionLimit) (hh : A.handled = none) (hun : A.units + 100 < cLine)
    {n : LN} {cp ch cr cf : Option Value} {W : List (Addr × Obj)} {du fi fo pl : Addr} {lp : List (Str × Tok)} {np : Nat} {nt : Nat} {ns : List Int} {ks fs : List Nat} {vs : Array Value} {ts : List PT} {W0 : List (Addr × Obj)}
    (hfo : n.folders = some (.ref fo)) (hfb : Bears W0 (.l (ks.map (folT ns))) (.ref fo)) (hkl : ks.length ≤ 11) (hkk : ∀ k ∈ ks, k < 11)
    (hfi : n.files = some (.ref fi)) (hcb : Bears W0 (.l (fs.map (filT ns))) (.ref fi)) (hfl : fs.length ≤ 11)
    (hcp : cp = some (.ref pl)) (hpl : (pl, PySem.W.listOf (strValues lp).toArray np) ∈ W0) (hlp : lp.map (·.1) = placeF ns)
    (hdue : n.due = some (.ref du)) (hW : W = (du, PySem.W.listOf vs nt) :: W0) (hvb : BearsL W0 ts vs.toList) (hvz : vs.size ≤ 50) (hap : ∀ p ∈ W0, @Ne Nat p.1 du) (hL : @LT.lt Nat _ (L + 4) du)
    (St : LSt base L h n cp ch cr cf W)
    {Q : Flow → Shared → Prop} (ret : ∀ h' tk' fv vs' nt' X, LSt base L h' n cp ch cr fv ((du, PySem.W.listOf vs' nt') :: (X ++ W0)) → vs'.size = vs.size + ks.length → BearsL (X ++ W0) (ts ++ ks.map fun k => .l [.s (folW ns k), .s (Txt.join (Str.ofString "") (fs.map fun j => nearF (placeF ns) (wayK ns k) (fwK ns j)))]) vs'.toList → (∀ p ∈ X ++ W0, @Ne Nat p.1 du) → Q .next { s with heap := h', toks := tk' }) :
    wpAny (model PySem.Challenge.rw_aa0007_01.row.prog w) A (exec (lawSt 15) (lawEnv L fa cd)) Q noE { s with heap := h, toks := tk } := by
  (refine aro hh hroom hun ?_; clear hh hroom hun; intro ad af ag au hroom hun; obtain ⟨F, ⟨o1, o2, o3, o4, d1, d2, d3, d4, N⟩, hl⟩ := St)
  refine hideL ?_; intro gg1
  obtain ⟨script, numbers, folders, files, k, way, begn, letter, near, seen, word, close, plain, wide, told, due⟩ := n
  k_unfold
  (try dsimp only at ret)
  obtain rfl : folders = _ := hfo
  obtain rfl : files = _ := hfi
  obtain rfl : due = _ := hdue
  subst hW
  subst hcp
  (refine' st_as ?e1 ?e2 ?_; (case e1 => (conv => lhs; whnf)); (case e2 => (conv => lhs; unfold lawEnv; arg 2; whnf)); intro env' A' gg dd oo; revert X; k_fill; intro X)
  have z1000 : (1000 : Nat) ≤ sizeLine := by decide
  have hzp : lp.length ≤ 3 := by have h1 := congrArg List.length hlp; rw [List.length_map] at h1; have := placeF_len ns; (first | exact (ch2 0 0 0 3 0 3 (Nat.le_of_eq h1) this (Eq.refl true)) | omega)
  refine hideL ?_; intro gg2
  obtain ⟨its, nf, hmc, hbc⟩ := bears_ref hcb
  k_unfold
  have hzf : its.size = fs.length := by rw [← Array.length_toList, bearsL_len hbc, List.length_map]
  refine hideL ?_; intro gg3
  obtain ⟨ifo, nfo, hmf, hbf⟩ := bears_ref hfb
  k_unfold
  have hz2 : ifo.size = ks.length := by rw [← Array.length_toList, bearsL_len hbf, List.length_map]
  refine for_list3 (hs := by intro _; rfl) (items := ifo) (P := P15 fo du L o1 o2 o3 ({ script := script, numbers := numbers, folders := some (.ref fo), files := some (.ref fi), k := k, way := way, begn := begn, letter := letter, near := near, seen := seen, word := word, close := close, plain := plain, wide := wide, told := told, due := some (.ref du) }) vs.size ts ks (fun k => PT.l [.s (folW ns k), .s (Txt.join (Str.ofString "") (fs.map fun j => nearF (placeF ns) (wayK ns k) (fwK ns j)))]) W0)
    (h₀ := base) rfl ?_ ?_ ?_ ?_
  · rintro l B i m' n' h hp4_6 F N
    refine hideL ?_; intro gg4
    obtain ⟨rfl, fv, o4', vt, nt, X, rfl, rfl, _⟩ := hp4_6
    k_unfold
    exact ⟨_, (N (l, { cls := .type "list", data := .seq ifo nfo }) (by repeat' first | exact List.Mem.head _ | exact hmf | exact List.mem_append_right _ hmf | refine' List.Mem.tail _ ?_)).1, rfl, _, rfl⟩
  · ((try k_extra "rf"); (repeat' (first | (k_extra "w1") | (k_end; (k_extra "lEx"); (k_extra "vn")) | (k_extra "rq") | (k_extra "wo"))))
    rename News _ _ _ _ => N
    rename Fr _ _ _ _ => F
    exact ⟨_, _, _, _, _, rfl, rfl, F, N, rfl, cf, o4, vs, nt, [], rfl, rfl, d4, rfl, by rw [List.take_zero, List.map_nil, List.append_nil]; exact hvb, List.forall_mem_nil _, Heap.lt_size (N _ (.tail _ (.tail _ (.tail _ (.tail _ (.head _)))))).1⟩
  · rintro l i v m₁ n₁ h tk I oI hv hp5_10 hne F N
    refine hideL ?_; intro gg5
    obtain ⟨rfl, fv, o4i, vt, nt, Xs, rfl, rfl, hd4i, hvt, hb, hX, htI⟩ := hp5_10
    k_unfold
    replace F : Fr base L h _ := F
    replace N : News base L h _ := N
    obtain ⟨tr, htr, hbv⟩ := bearsL_get hbf i v (by rw [Array.getElem?_toList]; exact hv)
    refine hideL ?_; intro gg6
    obtain ⟨k0, hk0, rfl⟩ : ∃ k0, ks[i]? = some k0 ∧ tr = folT ns k0 := map_get htr
    k_unfold
    have hkm : k0 < 11 := hkk k0 (List.mem_of_getElem? hk0)
    have hik : i < ks.length := (List.getElem?_eq_some_iff.mp hk0).1
    refine hideL ?_; intro gg7
    obtain ⟨rr, vf, nv, rfl, hmr, hbr⟩ := bears_of_l hbv
    obtain ⟨aF, nF, lF, hvf0, hmF, hF1⟩ := bearsL_lst hbr 0 (xs := wayK ns k0) rfl
    k_unfold
    have hzF : lF.length ≤ 3 := by have h1 := congrArg List.length hF1; rw [List.length_map] at h1; have := wayK_len ns k0; (first | exact (ch2 0 0 0 3 0 3 (Nat.le_of_eq h1) this (Eq.refl true)) | omega)
    refine st_folder (pre := [_]) F N hd4i (List.forall_mem_cons.mpr ⟨.inr (by show @LT.lt Nat _ (L + 4) I; (first | exact (ch2 5 0 1 0 5 0 hL htI (Eq.refl true)) | omega)), List.forall_mem_nil _⟩) (isL_cons fun p hp => by
      rcases List.mem_append.mp hp with hp | hp
      · exact (hX p hp).1
      · exact hl p (.tail _ hp)) ?_
    intro h0 o4' F0 N0 hd4
    dsimp only [List.cons_append, List.nil_append] at N0
    clear F N
    (try dsimp only)
    ((try k_extra "rf"); (repeat' (first | (k_extra "wb") | ((k_extra "lS"); (k_extra "wo")))))
    rename News _ _ _ _ => N
    rename Fr _ _ _ _ => F
    refine item_list (hs := by with_unfolding_all rfl) (⟨_, (N (rr, { cls := .type "list", data := .seq vf nv }) (by repeat' first | exact List.Mem.head _ | exact hmr | exact List.mem_append_right _ hmr | refine' List.Mem.tail _ ?_)).1, rfl, _, rfl⟩ : Heap.IsList _ rr vf) (by first | with_reducible assumption | decide | exact Nat.le_trans (by with_reducible assumption) (Nat.le_of_ble_eq_true rfl) | omega) (by first | with_reducible assumption | decide | exact Nat.le_trans (by with_reducible assumption) (Nat.le_of_ble_eq_true rfl) | omega) hvf0 ?_
    (try dsimp only)
    ((try k_extra "rf"); (repeat' (first | (k_extra "wb") | ((k_extra "lC"); (k_extra "wo")))))
    rename News _ _ _ _ => N
    rename Fr _ _ _ _ => F
    have n1 := N (pl, PySem.W.listOf (strValues lp).toArray np) (by repeat' first | exact List.Mem.head _ | exact hpl | exact List.mem_append_right _ hpl | refine' List.Mem.tail _ ?_)
    have n2 := N (aF, PySem.W.listOf (strValues lF).toArray nF) (by repeat' first | exact List.Mem.head _ | exact hmF | exact List.mem_append_right _ hmF | refine' List.Mem.tail _ ?_)
    (try k_fold)
    refine wpAny_mono (ct_word (h₀ := base) X T F.keep (by show ad + 10 < recursionLimit; first | exact room hroom rfl | exact room2 hroom rfl | exact room3 hroom rfl | omega) rfl (by show au + 50 < cLine; first | exact room hun rfl | exact room2 hun rfl | exact room3 hun rfl | omega) n1.1 n2.1 (by (first | exact (ch1 0 3 0 10 hzp (Eq.refl true)) | omega)) (by (first | exact (ch1 0 3 0 10 hzF (Eq.refl true)) | omega)) (fun c hc => by rw [hlp] at hc; exact (placeF_good ns c hc).sm) (fun c hc => by rw [hF1] at hc; exact (wayK_good ns k0 c hc).sm) n1.2.2 n2.2.2 ?_) (fun _ _ z => z) (fun _ _ (z : False) => z.elim)
    intro h2 tk2 t2 st2
    rw [hlp, hF1, show relF (placeF ns) (wayK ns k0) = folW ns k0 from rfl]
    have F2 := fr_stay F st2
    have N2 := news_stay N st2
    clear F N n1 n2
    ((try k_extra "rf"); (repeat' (first | (k_extra "v0") | (k_extra "wn") | ((k_extra "ge"); (k_extra "lL"); (k_extra "ve")) | ((k_extra "gx"); (k_extra "vx")) | (k_extra "rq") | ((k_extra "lL"); (k_extra "wo")))))
    rename News _ _ _ _ => N
    rename Fr _ _ _ _ => F
    refine LCg.ListComp_U (F₀ := F) (by with_unfolding_all rfl) (by decide) (by rfl) (by decide) (by rfl) ?_
    ((try k_extra "rf"); (repeat' (first | (k_extra "wb") | (k_extra "wo"))))
    rename News _ _ _ _ => N
    rename Fr _ _ _ _ => F
    refine comp_texts (fun j => nearF (placeF ns) (wayK ns k0) (fwK ns j)) rfl F N (by repeat' first | exact List.Mem.head _ | exact hmc | exact List.mem_append_right _ hmc | refine' List.Mem.tail _ ?_) hbc hfl ?_ ?_
    · intro j0 v lz I2 oI2 C oC D m₂ h tk E' hj0 hbv hC hx F N off ne
      refine hideL ?_; intro gg8
      obtain ⟨r, vr, nv2, rfl, hmr2, hbr2⟩ := bears_of_l hbv
      obtain ⟨a0, na, l0, hv0, hma, hl1⟩ := bearsL_lst hbr2 0 (xs := fwK ns j0) rfl
      k_unfold
      have hz0 : l0.length ≤ 4 := by have h1 := congrArg List.length hl1; rw [List.length_map] at h1; have := fwK_len ns j0; (first | exact (ch2 0 0 0 4 0 4 (Nat.le_of_eq h1) this (Eq.refl true)) | omega)
      ((try k_extra "rf"); (repeat' (first | (k_extra "wb") | ((k_extra "lS"); (k_extra "wo")))))
      rename News _ _ _ _ => N
      rename Fr _ _ _ _ => F
      refine item_list (hs := by with_unfolding_all rfl) (⟨_, (N (rr, { cls := .type "list", data := .seq vf nv }) (by repeat' first | exact List.Mem.head _ | exact hmr | exact List.mem_append_right _ hmr | refine' List.Mem.tail _ ?_)).1, rfl, _, rfl⟩ : Heap.IsList _ rr vf) (by first | with_reducible assumption | decide | exact Nat.le_trans (by with_reducible assumption) (Nat.le_of_ble_eq_true rfl) | omega) (by first | with_reducible assumption | decide | exact Nat.le_trans (by with_reducible assumption) (Nat.le_of_ble_eq_true rfl) | omega) hvf0 ?_
      (try dsimp only)
      ((try k_extra "rf"); (repeat' (first | (k_extra "wb") | ((k_extra "lS"); (k_extra "wo")))))
      rename News _ _ _ _ => N
      rename Fr _ _ _ _ => F
      refine item_list (hs := by with_unfolding_all rfl) (⟨_, (N (r, { cls := .type "list", data := .seq vr nv2 }) (by repeat' first | exact List.Mem.head _ | exact hmr2 | exact List.mem_append_right _ hmr2 | refine' List.Mem.tail _ ?_)).1, rfl, _, rfl⟩ : Heap.IsList _ r vr) (by first | with_reducible assumption | decide | exact Nat.le_trans (by with_reducible assumption) (Nat.le_of_ble_eq_true rfl) | omega) (by first | with_reducible assumption | decide | exact Nat.le_trans (by with_reducible assumption) (Nat.le_of_ble_eq_true rfl) | omega) hv0 ?_
      (try dsimp only)
      ((try k_extra "rf"); (repeat' (first | (k_extra "wb") | ((k_extra "lC"); (k_extra "wo")))))
      rename News _ _ _ _ => N
      rename Fr _ _ _ _ => F
      (try k_fold)
      refine wpAny_mono (ct_near (X.keeps F.keep) (T.keeps F.keep) (by show ad + 20 < recursionLimit; first | exact room hroom rfl | exact room2 hroom rfl | exact room3 hroom rfl | omega) rfl (by show au + 60 < cLine; first | exact room hun rfl | exact room2 hun rfl | exact room3 hun rfl | omega) (N (pl, PySem.W.listOf (strValues lp).toArray np) (by repeat' first | exact List.Mem.head _ | exact hpl | exact List.mem_append_right _ hpl | refine' List.Mem.tail _ ?_)).1 (N (aF, PySem.W.listOf (strValues lF).toArray nF) (by repeat' first | exact List.Mem.head _ | exact hmF | exact List.mem_append_right _ hmF | refine' List.Mem.tail _ ?_)).1 (N (a0, PySem.W.listOf (strValues l0).toArray na) (by repeat' first | exact List.Mem.head _ | exact hma | exact List.mem_append_right _ hma | refine' List.Mem.tail _ ?_)).1 (by first | with_reducible assumption | decide | exact Nat.le_trans (by with_reducible assumption) (Nat.le_of_ble_eq_true rfl) | omega) (by first | with_reducible assumption | decide | exact Nat.le_trans (by with_reducible assumption) (Nat.le_of_ble_eq_true rfl) | omega) (by first | with_reducible assumption | decide | exact Nat.le_trans (by with_reducible assumption) (Nat.le_of_ble_eq_true rfl) | omega) ?_) (fun _ _ z => z) (fun _ _ (z : False) => z.elim)
      intro h3 tk3 t3 st3
      rw [hlp, hF1, hl1]
      have F3 := fr_stay F st3
      have N3 := news_stay N st3
      clear F N
      (try dsimp only)
      exact ⟨_, _, _, rfl, F3, N3, rfl⟩
    · intro lz gh hlz D3 h3 tk3 F N off
      ((try k_extra "rf"); (repeat' (first | (k_extra "wb") | ((k_extra "lB"); (k_extra "wo")))))
      rename News _ _ _ _ => N
      rename Fr _ _ _ _ => F
      refine SC.join (N.isList (.head _)) hlz (joinOk_of_weight (wt_of (B := 1) (m := 11) (fun y (hy : y ∈ fs.map (fun j => nearF (placeF ns) (wayK ns k0) (fwK ns j))) => by obtain ⟨j, _, rfl⟩ := List.mem_map.mp hy; exact nearF_sm _ _ _) (by rw [List.length_map]; exact hfl) rfl) (by decide)) ?_
      intro tj kj
      (try dsimp only)
      have eD3 : @Ne Nat D3 du := fun z => off.2.2.2.2.2.1 z.symm
      ((try k_extra "rf"); (repeat' (first | (k_extra "wb") | ((k_extra "lB"); (k_extra "wo")))))
      rename News _ _ _ _ => N
      rename Fr _ _ _ _ => F
      rename (@LT.lt Nat _ D3 _ ∧ _) => bn
      rename Addr => ln
      refine append_led (pre := [_, _, _, _, _, _, _]) F N ?_ ?_ ?_ ?_
      · refine fmc ?_ (fmc (eD3) (fmc (Nat.ne_of_gt htI) (fmc (cne hL 4 rfl) (fmc (cne hL 3 rfl) (fmc (cne hL 2 rfl) (fmc (cne hL 1 rfl) (List.forall_mem_nil _)))))))
        (show @Ne Nat _ _; first | with_reducible assumption | exact Nat.ne_of_gt htI | exact Nat.ne_of_lt htI | exact Nat.ne_of_gt (by with_reducible assumption) | exact Nat.ne_of_lt (by with_reducible assumption) | exact Nat.ne_of_gt bn.1 | exact Nat.ne_of_gt bn.2.1 | exact Nat.ne_of_gt bn.2.2.1 | exact Nat.ne_of_gt bn.2.2.2.1 | exact Nat.ne_of_gt bn.2.2.2.2.1 | exact Nat.ne_of_gt bn.2.2.2.2.2.1 | exact Nat.ne_of_gt bn.2.2.2.2.2.2.1 | exact Nat.ne_of_gt bn.2.2.2.2.2.2.2.1 | exact Nat.ne_of_gt bn.2.2.2.2.2.2.2.2.1 | exact Nat.ne_of_gt bn.2.2.2.2.2.2.2.2.2.1 | exact Nat.ne_of_gt bn.2.2.2.2.2.2.2.2.2.2.1 | exact Nat.ne_of_gt bn.2.2.2.2.2.2.2.2.2.2.2.1 | exact Nat.ne_of_gt bn.2.2.2.2.2.2.2.2.2.2.2.2.1 | exact Nat.ne_of_gt bn.2.2.2.2.2.2.2.2.2.2.2.2.2.1 | omega)
      · exact either (fun p hp => (hX p hp).2) hap
      · rw [hvt]; (first | exact (lin4 4 [_, _, _, _] 0 (.a (.v 0) (.v 1)) (.v 2) 1 (.v 3) (.k 11) 1 (.v 0) (.k 50) 1 (.k 1000) (.v 2) 1 (.a (.v 1) (.k 1)) (.v 3) hkl hvz z1000 hik rfl (Eq.refl true)) | omega)
      intro h6 F6 N6
      dsimp only [List.cons_append, List.nil_append] at N6
      clear F N
      ((try k_extra "rf"); (repeat' (first | (k_extra "w1") | (k_end; (k_extra "lAn"); (k_extra "vn")) | (k_extra "rq") | (k_extra "wo"))))
      ((try dsimp only); rename News _ _ _ _ => N; rename Fr _ _ _ _ => F; (try dsimp only at F N))
      have sub : ∀ p ∈ Xs ++ W0, p ∈ (ln, PySem.W.listOf #[Value.str (folW ns k0) t2, Value.str (Txt.join (Str.ofString "") (fs.map fun j => nearF (placeF ns) (wayK ns k0) (fwK ns j))) tj] 0) :: Xs ++ W0 := fun p hp => by
        rw [List.cons_append]; exact .tail _ hp
      refine ⟨.inl rfl, _, _, _, (L + 1 + 1 + 1 + 1, o4') :: (L + 1 + 1 + 1, o3) :: (L + 1 + 1, o2) :: (L + 1, o1) :: (du, PySem.W.listOf (vt.push (.ref ln)) (nt + 1)) :: ((ln, PySem.W.listOf #[Value.str (folW ns k0) t2, Value.str (Txt.join (Str.ofString "") (fs.map fun j => nearF (placeF ns) (wayK ns k0) (fwK ns j))) tj] 0) :: Xs ++ W0), rfl, F, ?_, ?_, by trivial, _, o4', vt.push (.ref ln), nt + 1, _ :: Xs, rfl, rfl, hd4, by rw [Array.size_push, hvt]; (first | exact (Nat.le_antisymm (lin0 2 [_, _] (.a (.a (.v 0) (.v 1)) (.k 1)) (.a (.v 0) (.a (.v 1) (.k 1))) rfl (Eq.refl true)) (lin0 2 [_, _] (.a (.v 0) (.a (.v 1) (.k 1))) (.a (.a (.v 0) (.v 1)) (.k 1)) rfl (Eq.refl true))) | omega), ?_, ?_, htI⟩
      · repeat' first | refine nw N (by k_mem) ?_ | exact fun p hp => N p (by repeat' first | exact hp | refine' List.Mem.tail _ ?_)
      · repeat' first | refine fmn hne (by k_mem) ?_ | refine fmc (hne (L + 1 + 1 + 1 + 1, o4i) (by k_mem)) ?_ | refine fmc (Nat.ne_of_lt htI) ?_ | refine fmc (by show @Ne Nat _ _; first | with_reducible assumption | exact Nat.ne_of_gt htI | exact Nat.ne_of_lt htI | exact Nat.ne_of_gt (by with_reducible assumption) | exact Nat.ne_of_lt (by with_reducible assumption) | exact Nat.ne_of_gt bn.1 | exact Nat.ne_of_gt bn.2.1 | exact Nat.ne_of_gt bn.2.2.1 | exact Nat.ne_of_gt bn.2.2.2.1 | exact Nat.ne_of_gt bn.2.2.2.2.1 | exact Nat.ne_of_gt bn.2.2.2.2.2.1 | exact Nat.ne_of_gt bn.2.2.2.2.2.2.1 | exact Nat.ne_of_gt bn.2.2.2.2.2.2.2.1 | exact Nat.ne_of_gt bn.2.2.2.2.2.2.2.2.1 | exact Nat.ne_of_gt bn.2.2.2.2.2.2.2.2.2.1 | exact Nat.ne_of_gt bn.2.2.2.2.2.2.2.2.2.2.1 | exact Nat.ne_of_gt bn.2.2.2.2.2.2.2.2.2.2.2.1 | exact Nat.ne_of_gt bn.2.2.2.2.2.2.2.2.2.2.2.2.1 | exact Nat.ne_of_gt bn.2.2.2.2.2.2.2.2.2.2.2.2.2.1 | omega) ?_ | exact fun p hp => hne p (by repeat' first | exact hp | refine' List.Mem.tail _ ?_)
      · exact bearsL_take hk0 (bears_l (.head _) (bearsL_cons bears_s (bearsL_cons bears_s bearsL_nil))) (BearsL.mono sub _ _ hb)
      · exact List.forall_mem_cons.mpr ⟨⟨⟨_, _, rfl⟩, by show @Ne Nat _ _; first | with_reducible assumption | exact Nat.ne_of_gt htI | exact Nat.ne_of_lt htI | exact Nat.ne_of_gt (by with_reducible assumption) | exact Nat.ne_of_lt (by with_reducible assumption) | exact Nat.ne_of_gt bn.1 | exact Nat.ne_of_gt bn.2.1 | exact Nat.ne_of_gt bn.2.2.1 | exact Nat.ne_of_gt bn.2.2.2.1 | exact Nat.ne_of_gt bn.2.2.2.2.1 | exact Nat.ne_of_gt bn.2.2.2.2.2.1 | exact Nat.ne_of_gt bn.2.2.2.2.2.2.1 | exact Nat.ne_of_gt bn.2.2.2.2.2.2.2.1 | exact Nat.ne_of_gt bn.2.2.2.2.2.2.2.2.1 | exact Nat.ne_of_gt bn.2.2.2.2.2.2.2.2.2.1 | exact Nat.ne_of_gt bn.2.2.2.2.2.2.2.2.2.2.1 | exact Nat.ne_of_gt bn.2.2.2.2.2.2.2.2.2.2.2.1 | exact Nat.ne_of_gt bn.2.2.2.2.2.2.2.2.2.2.2.2.1 | exact Nat.ne_of_gt bn.2.2.2.2.2.2.2.2.2.2.2.2.2.1 | omega⟩, hX⟩
  · rintro l B h tk m' n' F N hp9_8
    refine hideL ?_; intro gg9
    obtain ⟨rfl, fv, o4', vt, nt, Xs, rfl, rfl, hd4, hvt, hb, hX, htI⟩ := hp9_8
    k_unfold
    replace F : Fr base L h _ := F
    replace N : News base L h _ := N
    rw [List.take_of_length_le (by (first | exact (ch1 0 0 0 0 (Nat.le_of_eq hz2.symm) (Eq.refl true)) | omega))] at hb
    refine ret _ _ fv vt nt Xs ⟨F, ⟨o1, o2, o3, o4', d1, d2, d3, hd4, N⟩, (isL_cons fun p hp => by
      rcases List.mem_append.mp hp with hp | hp
      · exact (hX p hp).1
      · exact hl p (.tail _ hp))⟩ (by rw [hvt, hz2]) hb ?_
    exact either (fun p hp => (hX p hp).2) hap
end TS15
section TS16
open PySem PySem.W PyProof.Rows PySem.Calls
set_option maxHeartbeats 8000000

theorem law_s16 {w : World} {A : Around} {s : Shared} {p : Program} {loose : List Str} {mean : ExcName → Option Value} {mg mb : Str → Option Value} {base h : Heap} {tk : Nat} {L fa : Addr} {cd : Value}
    (X : (Mine.top.heap_1_39 w.params).In base) (T : Top p loose mean mg mb base) (hroom : A.depth + 100 < recursionLimit) (hh : A.handled = none) (hun : A.units + 100 < cLine)
    {n : LN} {cp ch cr cf : Option Value} {W : List (Addr × Obj)} {du fi fo : Addr} {nt : Nat} {ns : List Int} {ks fs : List Nat} {vs : Array Value} {ts : List PT} {W0 : List (Addr × Obj)}
    (hfo : n.folders = some (.ref fo)) (hfb : Bears W0 (.l (ks.map (folT ns))) (.ref fo)) (hkl : ks.length ≤ 11) (hkk : ∀ k ∈ ks, k < 11)
    (hfi : n.files = some (.ref fi)) (hcb : Bears W0 (.l (fs.map (filT ns))) (.ref fi)) (hfl : fs.length ≤ 11)
    (hdue : n.due = some (.ref du)) (hW : W = (du, PySem.W.listOf vs nt) :: W0) (hvb : BearsL W0 ts vs.toList) (hvz : vs.size ≤ 50) (hap : ∀ p ∈ W0, @Ne Nat p.1 du) (hL : @LT.lt Nat _ (L + 4) du)
    (St : LSt base L h n cp ch cr cf W)
    {Q : Flow → Shared → Prop} (ret : ∀ h' tk' fv vs' nt', LSt base L h' n cp ch cr fv ((du, PySem.W.listOf vs' nt') :: (W0)) → vs'.size = vs.size + ks.length → BearsL (W0) (ts ++ ks.map fun k => .s (Txt.join (Str.ofString "") (fs.map fun j => farF (wayK ns k) (fwK ns j)))) vs'.toList → Q .next { s with heap := h', toks := tk' }) :
    wpAny (model PySem.Challenge.rw_aa0007_01.row.prog w) A (exec (lawSt 16) (lawEnv L fa cd)) Q noE { s with heap := h, toks := tk } := by
  (refine aro hh hroom hun ?_; clear hh hroom hun; intro ad af ag au hroom hun; obtain ⟨F, ⟨o1, o2, o3, o4, d1, d2, d3, d4, N⟩, hl⟩ := St)
  refine hideL ?_; intro gg1
  obtain ⟨script, numbers, folders, files, k, way, begn, letter, near, seen, word, close, plain, wide, told, due⟩ := n
  k_unfold
  (try dsimp only at ret)
  obtain rfl : folders = _ := hfo
  obtain rfl : files = _ := hfi
  obtain rfl : due = _ := hdue
  subst hW
  (refine' st_as ?e1 ?e2 ?_; (case e1 => (conv => lhs; whnf)); (case e2 => (conv => lhs; unfold lawEnv; arg 2; whnf)); intro env' A' gg dd oo; revert X; k_fill; intro X)
  have z1000 : (1000 : Nat) ≤ sizeLine := by decide
  refine hideL ?_; intro gg2
  obtain ⟨its, nf, hmc, hbc⟩ := bears_ref hcb
  k_unfold
  have hzf : its.size = fs.length := by rw [← Array.length_toList, bearsL_len hbc, List.length_map]
  refine hideL ?_; intro gg3
  obtain ⟨ifo, nfo, hmf, hbf⟩ := bears_ref hfb
  k_unfold
  have hz2 : ifo.size = ks.length := by rw [← Array.length_toList, bearsL_len hbf, List.length_map]
  refine for_list3 (hs := by intro _; rfl) (items := ifo) (P := P16 fo du L o1 o2 o3 ({ script := script, numbers := numbers, folders := some (.ref fo), files := some (.ref fi), k := k, way := way, begn := begn, letter := letter, near := near, seen := seen, word := word, close := close, plain := plain, wide := wide, told := told, due := some (.ref du) }) vs.size ts ks (fun k => PT.s (Txt.join (Str.ofString "") (fs.map fun j => farF (wayK ns k) (fwK ns j)))) W0)
    (h₀ := base) rfl ?_ ?_ ?_ ?_
  · rintro l B i m' n' h hp4_6 F N
    refine hideL ?_; intro gg4
    obtain ⟨rfl, fv, o4', vt, nt, rfl, rfl, _⟩ := hp4_6
    k_unfold
    exact ⟨_, (N (l, { cls := .type "list", data := .seq ifo nfo }) (by repeat' first | exact List.Mem.head _ | exact hmf | exact List.mem_append_right _ hmf | refine' List.Mem.tail _ ?_)).1, rfl, _, rfl⟩
  · ((try k_extra "rf"); (repeat' (first | (k_extra "w1") | (k_end; (k_extra "lEx"); (k_extra "vn")) | (k_extra "rq") | (k_extra "wo"))))
    rename News _ _ _ _ => N
    rename Fr _ _ _ _ => F
    exact ⟨_, _, _, _, _, rfl, rfl, F, N, rfl, cf, o4, vs, nt, rfl, rfl, d4, rfl, by rw [List.take_zero, List.map_nil, List.append_nil]; exact hvb, Heap.lt_size (N _ (.tail _ (.tail _ (.tail _ (.tail _ (.head _)))))).1⟩
  · rintro l i v m₁ n₁ h tk I oI hv hp5_10 hne F N
    refine hideL ?_; intro gg5
    obtain ⟨rfl, fv, o4i, vt, nt, rfl, rfl, hd4i, hvt, hb, htI⟩ := hp5_10
    k_unfold
    replace F : Fr base L h _ := F
    replace N : News base L h _ := N
    obtain ⟨tr, htr, hbv⟩ := bearsL_get hbf i v (by rw [Array.getElem?_toList]; exact hv)
    refine hideL ?_; intro gg6
    obtain ⟨k0, hk0, rfl⟩ : ∃ k0, ks[i]? = some k0 ∧ tr = folT ns k0 := map_get htr
    k_unfold
    have hkm : k0 < 11 := hkk k0 (List.mem_of_getElem? hk0)
    have hik : i < ks.length := (List.getElem?_eq_some_iff.mp hk0).1
    refine hideL ?_; intro gg7
    obtain ⟨rr, vf, nv, rfl, hmr, hbr⟩ := bears_of_l hbv
    obtain ⟨aF, nF, lF, hvf0, hmF, hF1⟩ := bearsL_lst hbr 0 (xs := wayK ns k0) rfl
    k_unfold
    have hzF : lF.length ≤ 3 := by have h1 := congrArg List.length hF1; rw [List.length_map] at h1; have := wayK_len ns k0; (first | exact (ch2 0 0 0 3 0 3 (Nat.le_of_eq h1) this (Eq.refl true)) | omega)
    refine st_folder (pre := [_]) F N hd4i (List.forall_mem_cons.mpr ⟨.inr (by show @LT.lt Nat _ (L + 4) I; (first | exact (ch2 5 0 1 0 5 0 hL htI (Eq.refl true)) | omega)), List.forall_mem_nil _⟩) (isL_cons fun p hp => hl p (.tail _ hp)) ?_
    intro h0 o4' F0 N0 hd4
    dsimp only [List.cons_append, List.nil_append] at N0
    clear F N
    (try dsimp only)
    ((try k_extra "rf"); (repeat' (first | (k_extra "v0") | (k_extra "wn") | ((k_extra "ge"); (k_extra "lL"); (k_extra "ve")) | ((k_extra "gx"); (k_extra "vx")) | (k_extra "rq") | ((k_extra "lL"); (k_extra "wo")))))
    rename News _ _ _ _ => N
    rename Fr _ _ _ _ => F
    refine LCg.ListComp_U (F₀ := F) (by with_unfolding_all rfl) (by decide) (by rfl) (by decide) (by rfl) ?_
    ((try k_extra "rf"); (repeat' (first | (k_extra "wb") | (k_extra "wo"))))
    rename News _ _ _ _ => N
    rename Fr _ _ _ _ => F
    refine comp_texts (fun j => farF (wayK ns k0) (fwK ns j)) rfl F N (by repeat' first | exact List.Mem.head _ | exact hmc | exact List.mem_append_right _ hmc | refine' List.Mem.tail _ ?_) hbc hfl ?_ ?_
    · intro j0 v lz I2 oI2 C oC D m₂ h tk E' hj0 hbv hC hx F N off ne
      refine hideL ?_; intro gg8
      obtain ⟨r, vr, nv2, rfl, hmr2, hbr2⟩ := bears_of_l hbv
      obtain ⟨a0, na, l0, hv0, hma, hl1⟩ := bearsL_lst hbr2 0 (xs := fwK ns j0) rfl
      k_unfold
      have hz0 : l0.length ≤ 4 := by have h1 := congrArg List.length hl1; rw [List.length_map] at h1; have := fwK_len ns j0; (first | exact (ch2 0 0 0 4 0 4 (Nat.le_of_eq h1) this (Eq.refl true)) | omega)
      ((try k_extra "rf"); (repeat' (first | (k_extra "wb") | ((k_extra "lS"); (k_extra "wo")))))
      rename News _ _ _ _ => N
      rename Fr _ _ _ _ => F
      refine item_list (hs := by with_unfolding_all rfl) (⟨_, (N (rr, { cls := .type "list", data := .seq vf nv }) (by repeat' first | exact List.Mem.head _ | exact hmr | exact List.mem_append_right _ hmr | refine' List.Mem.tail _ ?_)).1, rfl, _, rfl⟩ : Heap.IsList _ rr vf) (by first | with_reducible assumption | decide | exact Nat.le_trans (by with_reducible assumption) (Nat.le_of_ble_eq_true rfl) | omega) (by first | with_reducible assumption | decide | exact Nat.le_trans (by with_reducible assumption) (Nat.le_of_ble_eq_true rfl) | omega) hvf0 ?_
      (try dsimp only)
      ((try k_extra "rf"); (repeat' (first | (k_extra "wb") | ((k_extra "lS"); (k_extra "wo")))))
      rename News _ _ _ _ => N
      rename Fr _ _ _ _ => F
      refine item_list (hs := by with_unfolding_all rfl) (⟨_, (N (r, { cls := .type "list", data := .seq vr nv2 }) (by repeat' first | exact List.Mem.head _ | exact hmr2 | exact List.mem_append_right _ hmr2 | refine' List.Mem.tail _ ?_)).1, rfl, _, rfl⟩ : Heap.IsList _ r vr) (by first | with_reducible assumption | decide | exact Nat.le_trans (by with_reducible assumption) (Nat.le_of_ble_eq_true rfl) | omega) (by first | with_reducible assumption | decide | exact Nat.le_trans (by with_reducible assumption) (Nat.le_of_ble_eq_true rfl) | omega) hv0 ?_
      (try dsimp only)
      ((try k_extra "rf"); (repeat' (first | (k_extra "wb") | ((k_extra "lC"); (k_extra "wo")))))
      rename News _ _ _ _ => N
      rename Fr _ _ _ _ => F
      (try k_fold)
      refine wpAny_mono (ct_far (X.keeps F.keep) (T.keeps F.keep) (by show ad + 20 < recursionLimit; first | exact room hroom rfl | exact room2 hroom rfl | exact room3 hroom rfl | omega) rfl (by show au + 60 < cLine; first | exact room hun rfl | exact room2 hun rfl | exact room3 hun rfl | omega) (N (aF, PySem.W.listOf (strValues lF).toArray nF) (by repeat' first | exact List.Mem.head _ | exact hmF | exact List.mem_append_right _ hmF | refine' List.Mem.tail _ ?_)).1 (N (a0, PySem.W.listOf (strValues l0).toArray na) (by repeat' first | exact List.Mem.head _ | exact hma | exact List.mem_append_right _ hma | refine' List.Mem.tail _ ?_)).1 (by first | with_reducible assumption | decide | exact Nat.le_trans (by with_reducible assumption) (Nat.le_of_ble_eq_true rfl) | omega) (by first | with_reducible assumption | decide | exact Nat.le_trans (by with_reducible assumption) (Nat.le_of_ble_eq_true rfl) | omega) ?_) (fun _ _ z => z) (fun _ _ (z : False) => z.elim)
      intro h3 tk3 t3 st3
      rw [hF1, hl1]
      have F3 := fr_stay F st3
      have N3 := news_stay N st3
      clear F N
      (try dsimp only)
      exact ⟨_, _, _, rfl, F3, N3, rfl⟩
    · intro lz gh hlz D3 h3 tk3 F N off
      ((try k_extra "rf"); (repeat' (first | (k_extra "wb") | ((k_extra "lB"); (k_extra "wo")))))
      rename News _ _ _ _ => N
      rename Fr _ _ _ _ => F
      refine SC.join (N.isList (.head _)) hlz (joinOk_of_weight (wt_of (B := 1) (m := 11) (fun y (hy : y ∈ fs.map (fun j => farF (wayK ns k0) (fwK ns j))) => by obtain ⟨j, _, rfl⟩ := List.mem_map.mp hy; exact farF_sm _ _) (by rw [List.length_map]; exact hfl) rfl) (by decide)) ?_
      intro tj kj
      (try dsimp only)
      have eD3 : @Ne Nat D3 du := fun z => off.2.2.2.2.2.1 z.symm
      ((try k_extra "rf"); (repeat' (first | (k_extra "wb") | ((k_extra "lB"); (k_extra "wo")))))
      rename News _ _ _ _ => N
      rename Fr _ _ _ _ => F
      refine append_led (pre := [_, _, _, _, _, _]) F N ?_ hap ?_ ?_
      · exact fmc (eD3) (fmc (Nat.ne_of_gt htI) (fmc (cne hL 4 rfl) (fmc (cne hL 3 rfl) (fmc (cne hL 2 rfl) (fmc (cne hL 1 rfl) (List.forall_mem_nil _))))))
      · rw [hvt]; (first | exact (lin4 4 [_, _, _, _] 0 (.a (.v 0) (.v 1)) (.v 2) 1 (.v 3) (.k 11) 1 (.v 0) (.k 50) 1 (.k 1000) (.v 2) 1 (.a (.v 1) (.k 1)) (.v 3) hkl hvz z1000 hik rfl (Eq.refl true)) | omega)
      intro h6 F6 N6
      dsimp only [List.cons_append, List.nil_append] at N6
      clear F N
      ((try k_extra "rf"); (repeat' (first | (k_extra "w1") | (k_end; (k_extra "lAn"); (k_extra "vn")) | (k_extra "rq") | (k_extra "wo"))))
      ((try dsimp only); rename News _ _ _ _ => N; rename Fr _ _ _ _ => F; (try dsimp only at F N))
      refine ⟨.inl rfl, _, _, _, (L + 1 + 1 + 1 + 1, o4') :: (L + 1 + 1 + 1, o3) :: (L + 1 + 1, o2) :: (L + 1, o1) :: (du, PySem.W.listOf (vt.push (.str (Txt.join (Str.ofString "") (fs.map fun j => farF (wayK ns k0) (fwK ns j))) tj)) (nt + 1)) :: W0, rfl, F, ?_, ?_, by trivial, _, o4', _, nt + 1, rfl, rfl, hd4, by rw [Array.size_push, hvt]; (first | exact (Nat.le_antisymm (lin0 2 [_, _] (.a (.a (.v 0) (.v 1)) (.k 1)) (.a (.v 0) (.a (.v 1) (.k 1))) rfl (Eq.refl true)) (lin0 2 [_, _] (.a (.v 0) (.a (.v 1) (.k 1))) (.a (.a (.v 0) (.v 1)) (.k 1)) rfl (Eq.refl true))) | omega), ?_, htI⟩
      · repeat' first | refine nw N (by k_mem) ?_ | exact fun p hp => N p (by repeat' first | exact hp | refine' List.Mem.tail _ ?_)
      · repeat' first | refine fmn hne (by k_mem) ?_ | refine fmc (hne (L + 1 + 1 + 1 + 1, o4i) (by k_mem)) ?_ | refine fmc (Nat.ne_of_lt htI) ?_ | refine fmc (by show @Ne Nat _ _; first | with_reducible assumption | exact Nat.ne_of_gt htI | exact Nat.ne_of_lt htI | exact Nat.ne_of_gt (by with_reducible assumption) | exact Nat.ne_of_lt (by with_reducible assumption) | exact Nat.ne_of_gt bn.1 | exact Nat.ne_of_gt bn.2.1 | exact Nat.ne_of_gt bn.2.2.1 | exact Nat.ne_of_gt bn.2.2.2.1 | exact Nat.ne_of_gt bn.2.2.2.2.1 | exact Nat.ne_of_gt bn.2.2.2.2.2.1 | exact Nat.ne_of_gt bn.2.2.2.2.2.2.1 | exact Nat.ne_of_gt bn.2.2.2.2.2.2.2.1 | exact Nat.ne_of_gt bn.2.2.2.2.2.2.2.2.1 | exact Nat.ne_of_gt bn.2.2.2.2.2.2.2.2.2.1 | exact Nat.ne_of_gt bn.2.2.2.2.2.2.2.2.2.2.1 | exact Nat.ne_of_gt bn.2.2.2.2.2.2.2.2.2.2.2.1 | exact Nat.ne_of_gt bn.2.2.2.2.2.2.2.2.2.2.2.2.1 | exact Nat.ne_of_gt bn.2.2.2.2.2.2.2.2.2.2.2.2.2.1 | omega) ?_ | exact fun p hp => hne p (by repeat' first | exact hp | refine' List.Mem.tail _ ?_)
      · exact bearsL_take hk0 bears_s hb
  · rintro l B h tk m' n' F N hp9_8
    refine hideL ?_; intro gg9
    obtain ⟨rfl, fv, o4', vt, nt, rfl, rfl, hd4, hvt, hb, htI⟩ := hp9_8
    k_unfold
    replace F : Fr base L h _ := F
    replace N : News base L h _ := N
    rw [List.take_of_length_le (by (first | exact (ch1 0 0 0 0 (Nat.le_of_eq hz2.symm) (Eq.refl true)) | omega))] at hb
    refine ret _ _ fv vt nt ⟨F, ⟨o1, o2, o3, o4', d1, d2, d3, hd4, N⟩, (isL_cons fun p hp => hl p (.tail _ hp))⟩ (by rw [hvt, hz2]) hb
end TS16
section TS17
open PySem PySem.W PyProof.Rows PySem.Calls
set_option maxHeartbeats 8000000

theorem law_s17 {w : World} {A : Around} {s : Shared} {p : Program} {loose : List Str} {mean : ExcName → Option Value} {mg mb : Str → Option Value} {base h : Heap} {tk : Nat} {L fa : Addr} {cd : Value}
    (X : (Mine.top.heap_1_39 w.params).In base) (T : Top p loose mean mg mb base) (hroom : A.depth + 100 < recursionLimit) (hh : A.handled = none) (hun : A.units + 100 < cLine)
    {n : LN} {cp ch cr cf : Option Value} {W : List (Addr × Obj)} {a b : Addr} {vs vs' : Array Value} {na nb : Nat} {ts : List PT} (hto : n.told = some (.ref a)) (hdu : n.due = some (.ref b)) (ha : (a, PySem.W.listOf vs na) ∈ W) (hb : (b, PySem.W.listOf vs' nb) ∈ W) (h1 : BearsL W ts vs.toList) (h2 : BearsL W ts vs'.toList) (hd : (PT.l ts).depth ≤ 10)
    (St : LSt base L h n cp ch cr cf W) :
    wpAny (model PySem.Challenge.rw_aa0007_01.row.prog w) A (exec (lawSt 17) (lawEnv L fa cd)) (fun f s' => f = .ret (.bool true) ∧ ∃ h' tk', s' = { s with heap := h', toks := tk' } ∧ Fr base L h' (lm n)) noE { s with heap := h, toks := tk } := by
  (refine aro hh hroom hun ?_; clear hh hroom hun; intro ad af ag au hroom hun; obtain ⟨F, ⟨o1, o2, o3, o4, d1, d2, d3, d4, N⟩, hl⟩ := St)
  refine hideL ?_; intro gg1
  obtain ⟨script, numbers, folders, files, k, way, begn, letter, near, seen, word, close, plain, wide, told, due⟩ := n
  obtain rfl : told = _ := hto
  obtain rfl : due = _ := hdu
  k_unfold
  (refine' st_as ?e1 ?e2 ?_; (case e1 => (conv => lhs; whnf)); (case e2 => (conv => lhs; unfold lawEnv; arg 2; whnf)); intro env' A' gg dd oo; revert X; k_fill; intro X)
  ((try k_extra "rf"); (repeat' (first | (k_extra "wb") | ((k_extra "lE"); (k_extra "wo")))))
  rename News _ _ _ _ => N
  rename Fr _ _ _ _ => F
  refine eq_two (W := W) (fun p hp => (N p (.tail _ (.tail _ (.tail _ (.tail _ hp))))).1) (by show au + (PT.l ts).depth < cLine; (first | exact (lin2 3 [_, _, _] 0 (.a (.a (.v 0) (.v 1)) (.k 1)) (.v 2) 1 (.v 1) (.k 10) 1 (.a (.a (.v 0) (.k 100)) (.k 1)) (.v 2) hd hun rfl (Eq.refl true)) | omega)) (bears_l ha h1) (bears_l hb h2) ?_
  exact ⟨rfl, _, _, rfl, F⟩
end TS17
section TZ2
open PySem PySem.W PyProof.Rows PySem.Calls
set_option maxHeartbeats 8000000

theorem list_gets {α : Type} (d : α) : ∀ l : List α, l = (List.range l.length).map (fun i => l.getD i d) := fun l => by
  apply List.ext_getElem
  · simp
  · intro i h1 h2; simp [h1]
theorem law_body : lawDef.1 = [lawSt 0, lawSt 1, lawSt 2, lawSt 3, lawSt 4, lawSt 5, lawSt 6, lawSt 7, lawSt 8, lawSt 9, lawSt 10, lawSt 11, lawSt 12, lawSt 13, lawSt 14, lawSt 15, lawSt 16, lawSt 17] := by
  have h : lawDef.1.length = 18 := by decide +kernel
  have e := list_gets default lawDef.1
  rw [h] at e
  exact e
theorem exec_then {M : Model} {A : Around} {E : Value → Shared → Prop} {s : Shared} {env : Env} {st : Stmt} {rest : List Stmt} {Q : Flow → Shared → Prop}
    (h : ∀ Q', (∀ s', wpAny M A (execs rest env) Q E s' → Q' .next s') → wpAny M A (exec st env) Q' E s) : wpAny M A (execs (st :: rest) env) Q E s :=
  wpAny_execs_cons (h _ fun _ x => x)
theorem law_run {w : World} {A : Around} {s : Shared} {p : Program} {loose : List Str} {mean : ExcName → Option Value} {mg mb : Str → Option Value} {base h : Heap} {tk : Nat} {L fa : Addr} {cd : Value}
    (X : (Mine.top.heap_1_39 w.params).In base) (T : Top p loose mean mg mb base) (hroom : A.depth + 200 < recursionLimit) (hh : A.handled = none) (hun : A.units + 100 < cLine) (hfr : A.frames = some [lawEnv L fa cd])
    {a : Addr} {vs : List Value} {ns : List Int} (hLs : base.IsList a vs.toArray) (hI : IntsAre vs ns) (hns : ns.length ≤ 63)
    (St : LSt base L h ⟨some (.ref a), none, none, none, none, none, none, none, none, none, none, none, none, none, none, none⟩ none none none none []) :
    wpAny (model PySem.Challenge.rw_aa0007_01.row.prog w) A (execs lawDef.1 (lawEnv L fa cd)) (fun f s' => f = .ret (.bool true) ∧ ∃ h' tk' m, s' = { s with heap := h', toks := tk' } ∧ Fr base L h' m) noE { s with heap := h, toks := tk } := by
  have hroom' := hroom
  replace hroom : A.depth + 100 < recursionLimit := by (first | exact (ch1 201 0 101 0 hroom (Eq.refl true)) | omega)
  rw [law_body]
  refine exec_then fun _ go => law_s0 X T hroom hh hun rfl hLs hI hns St (fun h0 t0 b ws St0 hI0 => go _ ?_)
  (try dsimp only at St0)
  refine exec_then fun _ go => law_s1 X T hroom hh hun rfl hI0 hns St0 (fun h1 t1 c lp nc St1 hlp => go _ ?_)
  (try dsimp only at St1)
  have hlp : lp.map (·.1) = placeF ns := hlp
  have hzp : lp.length ≤ 3 := by rw [← List.length_map (f := fun p : Str × Tok => p.1), hlp]; exact placeF_len ns
  refine exec_then fun _ go => law_s2 X T hroom hh hun rfl (.head _) (Nat.le_trans hzp (by decide)) (fun x hx => by rw [hlp] at hx; exact (placeF_good ns x hx).sm) St1 (fun h2 t2 th St2 => go _ ?_)
  (try dsimp only at St2)
  rw [hlp, ← (show homeF ns = Str.ofString "/" ++ Txt.join (Str.ofString "/") (placeF ns) from rfl)] at St2
  have z1 := numsI_len ns
  have hF : folL ns (numsI ns).length ≠ [] := fol_some ns
  have hG : filL ns (numsI ns).length ≠ [] := fil_some ns
  have hFl : (folL ns (numsI ns).length).length ≤ 11 := by have := folL_len ns (numsI ns).length; (first | exact (ch2 0 0 0 11 0 11 this z1.2 (Eq.refl true)) | omega)
  have hGl : (filL ns (numsI ns).length).length ≤ 11 := by have := filL_len ns (numsI ns).length; (first | exact (ch2 0 0 0 11 0 11 this z1.2 (Eq.refl true)) | omega)
  have hFk : ∀ k ∈ folL ns (numsI ns).length, k < 11 := fun k hk => by have := folL_lt hk; (first | exact (ch2 1 0 0 11 1 11 this z1.2 (Eq.refl true)) | omega)
  have hGk : ∀ k ∈ filL ns (numsI ns).length, k < 11 := fun k hk => by have := filL_lt hk; (first | exact (ch2 1 0 0 11 1 11 this z1.2 (Eq.refl true)) | omega)
  have hGn := filL_nodup ns (numsI ns).length
  refine exec_then fun _ go => law_s3 X T hroom hh hun St2 (fun h3 t3 fo St3 b3 c3 => go _ ?_)
  (try dsimp only at St3)
  refine exec_then fun _ go => law_s4 X T hroom hh hun St3 (fun h4 t4 fi St4 b4 c4 => go _ ?_)
  (try dsimp only at St4)
  refine exec_then fun _ go => law_s5 X T hroom hh hun rfl rfl rfl hI0 rfl (.tail _ (.head _)) b3 (b4 _ (.head _)) c3 St4 (fun h5 t5 kk wy bg lt W' St5 B5 C5 => go _ ?_)
  (try dsimp only at St5)
  have hc5 : (c, lst lp nc) ∈ W' ++ [(c, lst lp nc), (b, PySem.W.listOf ws.toArray 0)] := List.mem_append_right _ (.head _)
  refine hideL ?_; intro gg1
  obtain ⟨W5, St5, B5, C5, hc5⟩ : ∃ V, LSt base L h5 _ _ _ _ _ V ∧ Bears V _ _ ∧ Bears V _ _ ∧ (c, lst lp nc) ∈ V := ⟨_, St5, B5, C5, hc5⟩
  k_unfold
  generalize folL ns (numsI ns).length = ks at hF hFl hFk B5
  generalize filL ns (numsI ns).length = fs at hG hGl hGk hGn C5
  refine exec_then fun _ go => law_s6 X T hroom hh hun (ns := ns) (th := th) (fo := fo) rfl rfl hfr B5 hF hFl hFk St5 (fun h6 t6 D6 c6 l6 St6 L6 => go _ ?_)
  (try dsimp only at St6)
  have s6 : ∀ q ∈ W5, q ∈ (D6, PySem.W.listOf (strValues l6).toArray c6) :: W5 := fun q hq => .tail _ hq
  refine exec_then fun _ go => law_s7 X T hroom hh hun (ns := ns) (th := th) (fo := fi) rfl rfl hfr (Bears.mono s6 _ _ C5) hG hGl hGk St6 (fun h7 t7 D7 c7 l7 St7 L7 => go _ ?_)
  (try dsimp only at St7)
  have s7 : ∀ q ∈ W5, q ∈ (D7, PySem.W.listOf (strValues l7).toArray c7) :: (D6, PySem.W.listOf (strValues l6).toArray c6) :: W5 := fun q hq => .tail _ (.tail _ hq)
  refine exec_then fun _ go => law_s8 X T hroom hh hun rfl (.head _) L7 hGl hGk St7 (fun h8 t8 D8 W8 St8 B8 => go _ ?_)
  (try dsimp only at St8)
  have s8 : ∀ q ∈ W5, q ∈ W8 ++ (D7, PySem.W.listOf (strValues l7).toArray c7) :: (D6, PySem.W.listOf (strValues l6).toArray c6) :: W5 := fun q hq => List.mem_append_right _ (s7 q hq)
  have m8 : (D6, PySem.W.listOf (strValues l6).toArray c6) ∈ W8 ++ (D7, PySem.W.listOf (strValues l7).toArray c7) :: (D6, PySem.W.listOf (strValues l6).toArray c6) :: W5 := List.mem_append_right _ (.tail _ (.head _))
  refine hideL ?_; intro gg2
  obtain ⟨V8, St8, B8, s8, m8⟩ : ∃ V, LSt base L h8 _ _ _ _ _ V ∧ Bears V _ _ ∧ (∀ q ∈ W5, q ∈ V) ∧ (D6, PySem.W.listOf (strValues l6).toArray c6) ∈ V := ⟨_, St8, B8, s8, m8⟩
  k_unfold
  refine exec_then fun _ go => law_s9 X T hroom hh hun rfl (Bears.mono s8 _ _ C5) hGl St8 (fun h9 t9 D9 c9 l9 St9 L9 => go _ ?_)
  (try dsimp only at St9)
  refine exec_then fun _ go => law_s10 X T hroom hh hun rfl (.head _) L9 hGl hGk St9 (fun h10 t10 D10 W10 St10 B10 => go _ ?_)
  (try dsimp only at St10)
  have s10 : ∀ q ∈ V8, q ∈ W10 ++ (D9, PySem.W.listOf (strValues l9).toArray c9) :: V8 := fun q hq => List.mem_append_right _ (.tail _ hq)
  refine hideL ?_; intro gg3
  obtain ⟨V10, St10, B10, s10⟩ : ∃ V, LSt base L h10 _ _ _ _ _ V ∧ Bears V _ _ ∧ (∀ q ∈ V8, q ∈ V) := ⟨_, St10, B10, s10⟩
  k_unfold
  have B8' := Bears.mono s10 _ _ B8
  refine exec_then fun _ go => law_s11 X T hroom hh hun rfl rfl B8' B10 St10 (fun h11 t11 tl St11 b11 c11 B11 => go _ ?_)
  (try dsimp only at St11)
  refine exec_then fun _ go => law_s12 X T hroom hh hun rfl (s10 _ m8) L6 hFl hFk rfl B8' hGl hGk hGn rfl rfl B11 (show (2 : Nat) ≤ 50 by decide) (fun p hp => Nat.ne_of_lt (b11 p hp)) c11 (fun k _ => np_rel X T (by first | with_reducible assumption | decide | exact Nat.le_trans (by with_reducible assumption) (Nat.le_of_ble_eq_true rfl) | omega) ns k) St11 (fun h12 t12 wv rv vs12 nt12 X12 St12 z12 B12 e12 => go _ ?_)
  (try dsimp only at St12)
  have z12 : vs12.size = 2 + ks.length := z12
  have s12 : ∀ q ∈ V10, q ∈ X12 ++ V10 := fun q hq => List.mem_append_right _ hq
  have s5 : ∀ q ∈ W5, q ∈ X12 ++ V10 := fun q hq => s12 q (s10 q (s8 q hq))
  have B10' := Bears.mono s12 _ _ B10
  clear B8 B8' B11
  refine hideL ?_; intro gg4
  obtain ⟨V12, St12, B12, e12, s5, B10'⟩ : ∃ V, LSt base L h12 _ _ _ _ _ (_ :: V) ∧ BearsL V _ _ ∧ (∀ p ∈ V, @Ne Nat p.1 tl) ∧ (∀ q ∈ W5, q ∈ V) ∧ Bears V _ _ := ⟨_, St12, B12, e12, s5, B10'⟩
  k_unfold
  refine exec_then fun _ go => law_s13 X T hroom hh hun rfl (Bears.mono s5 _ _ B5) hFl hFk rfl B10' hGl hGk hGn rfl rfl B12 (by first | (rw [z12]; exact Nat.le_trans (Nat.add_le_add_left hFl 2) (by decide)) | omega) e12 c11 (fun k _ => np_abs X T (by first | with_reducible assumption | decide | exact Nat.le_trans (by with_reducible assumption) (Nat.le_of_ble_eq_true rfl) | omega) ns k) St12 (fun h13 t13 rv3 fv vs13 nt13 St13 z13 B13 => go _ ?_)
  (try dsimp only at St13)
  have B13 : BearsL V12 (tree ns ks fs) vs13.toList := (tree_told ns ks fs) ▸ B13
  have s13 : ∀ q ∈ W5, q ∈ (tl, PySem.W.listOf vs13 nt13) :: V12 := fun q hq => .tail _ (s5 q hq)
  refine exec_then fun _ go => law_s14 X T hroom hh hun rfl (Bears.mono s13 _ _ C5) hGl hGk rfl (s13 _ hc5) hlp St13 (fun h14 t14 du vs14 nd X14 St14 z14 B14 e14 c14 => go _ ?_)
  (try dsimp only at St14)
  have s14 : ∀ q ∈ W5, q ∈ X14 ++ (tl, PySem.W.listOf vs13 nt13) :: V12 := fun q hq => List.mem_append_right _ (s13 q hq)
  have B13' := BearsL.mono (W' := X14 ++ (tl, PySem.W.listOf vs13 nt13) :: V12) (fun q hq => List.mem_append_right _ (.tail _ hq)) _ _ B13
  have mt : (tl, PySem.W.listOf vs13 nt13) ∈ X14 ++ (tl, PySem.W.listOf vs13 nt13) :: V12 := List.mem_append_right _ (.head _)
  refine hideL ?_; intro gg5
  obtain ⟨V14, St14, B14, e14, s14, B13', mt⟩ : ∃ V, LSt base L h14 _ _ _ _ _ (_ :: V) ∧ BearsL V _ _ ∧ (∀ p ∈ V, @Ne Nat p.1 du) ∧ (∀ q ∈ W5, q ∈ V) ∧ BearsL V (tree ns ks fs) vs13.toList ∧ (tl, PySem.W.listOf vs13 nt13) ∈ V := ⟨_, St14, B14, e14, s14, B13', mt⟩
  k_unfold
  refine exec_then fun _ go => law_s15 X T hroom hh hun rfl (Bears.mono s14 _ _ B5) hFl hFk rfl (Bears.mono s14 _ _ C5) hGl rfl (s14 _ hc5) hlp rfl rfl B14 (by first | with_reducible assumption | decide | exact Nat.le_trans (by with_reducible assumption) (Nat.le_of_ble_eq_true rfl) | omega) e14 c14 St14 (fun h15 t15 fv5 vs15 nd5 X15 St15 z15 B15 e15 => go _ ?_)
  (try dsimp only at St15)
  have s15 : ∀ q ∈ V14, q ∈ X15 ++ V14 := fun q hq => List.mem_append_right _ hq
  have B13'' := BearsL.mono s15 _ _ B13'
  have mt' := s15 _ mt
  have C5' := Bears.mono (fun q hq => s15 q (s14 q hq)) _ _ C5
  have B5' := Bears.mono (fun q hq => s15 q (s14 q hq)) _ _ B5
  refine hideL ?_; intro gg6
  obtain ⟨V15, St15, B15, e15, B13'', mt', C5', B5'⟩ : ∃ V, LSt base L h15 _ _ _ _ _ (_ :: V) ∧ BearsL V _ _ ∧ (∀ p ∈ V, @Ne Nat p.1 du) ∧ BearsL V (tree ns ks fs) vs13.toList ∧ (tl, PySem.W.listOf vs13 nt13) ∈ V ∧ Bears V _ _ ∧ Bears V _ _ := ⟨_, St15, B15, e15, B13'', mt', C5', B5'⟩
  k_unfold
  refine exec_then fun _ go => law_s16 X T hroom hh hun rfl B5' hFl hFk rfl C5' hGl rfl rfl B15 (by first | (rw [z15, z14]; exact Nat.le_trans (Nat.add_le_add_left hFl 2) (by decide)) | omega) e15 c14 St15 (fun h16 t16 fv6 vs16 nd6 St16 z16 B16 => go _ ?_)
  (try dsimp only at St16)
  refine wpAny_execs_cons (wpAny_mono (law_s17 X T hroom hh hun (ts := tree ns ks fs) rfl rfl (.tail _ mt') (.head _) (BearsL.mono (fun q hq => .tail _ hq) _ _ B13'') (BearsL.mono (fun q hq => .tail _ hq) _ _ B16) (tree_depth ns ks fs) St16) (fun f s' hf => ?_) (fun _ _ z => z))
  refine hideL ?_; intro gg7
  obtain ⟨rfl, h17, t17, rfl, F17⟩ := hf
  k_unfold
  exact ⟨rfl, _, _, _, rfl, F17⟩
end TZ2
section TZ3
open PySem PySem.W PyProof.Rows PySem.Calls
set_option maxHeartbeats 8000000
theorem fr_start {base h : Heap} {L : Addr} {kindOf : Str → Option NameKind} {v : Value} (hk : kindOf (Str.ofString "script") = some .local) (F : Fr base L h (bindL kindOf [(Str.ofString "script", v)] (fun _ => none))) : Fr base L h (lm ⟨some v, none, none, none, none, none, none, none, none, none, none, none, none, none, none, none⟩) := by
  rw [lm_start hk] at F; exact F
theorem law_top : PySem.Challenge.rw_aa0007_01.Holds := Mine.top.key (by
  intro w s₀ s₁ mg mb G Y
  first | replace Y := toK Y | skip
  revert w s₀ s₁ mg mb G Y
  k_go0
  (all_goals try k_fold)
  rename IntsAre _ _ => hI
  rename (Frag.In _ _) => KX
  rename Top _ _ _ _ _ _ => T
  rename News _ _ _ _ => N
  rename Fr _ _ _ _ => F
  rename CellsAre _ _ _ => CA
  rename Heap.IsList _ _ _ => hLs
  clear CA
  have F0 := fr_start rfl F
  show wpAny _ _ (execs lawDef.1 (lawEnv _ _ _)) _ _ _
  refine wpAny_mono (law_run KX T ?_ rfl ?_ rfl hLs hI ?_ ⟨F0, ⟨_, _, _, _, ?_, ?_, ?_, ?_, N⟩, List.forall_mem_nil _⟩) ?_ ?_
  · rw [depth_deeper]; decide
  · rw [units_deeper]; decide
  · (first | exact (ch1 1 0 1 0 z (Eq.refl true)) | exact (ch0 0 1 (Eq.refl true)) | exact (lin1 3 [_, _, _] 0 (.a (.v 0) (.v 1)) (.a (.v 2) (.v 0)) 1 (.v 1) (.v 2) ih rfl (Eq.refl true)) | exact (ch2 0 1 0 200 1 1000 (Nat.le_of_eq xl) hj (Eq.refl true)) | exact (Nat.ne_of_gt (lin1 2 [_, _] 0 (.a (.k 0) (.k 1)) (.v 0) 1 (.a (.v 1) (.k 1)) (.v 0) (Nat.le_of_eq xl.symm) rfl (Eq.refl true))) | exact (ch1 0 20 1 100 hl (Eq.refl true)) | omega)
  · assumption
  · assumption
  · assumption
  · assumption
  · rintro f s' hp1_2
    refine hideL ?_; intro gg1
    obtain ⟨rfl, h', tk', m, rfl, F'⟩ := hp1_2
    k_unfold
    wrow_close
  · intro _ _ z
    exact z.elim)
end TZ3
end Mine
theorem PySem.Challenge.cw_aa0007_01_holds : PySem.Challenge.rw_aa0007_01.Holds :=
  Mine.law_top
