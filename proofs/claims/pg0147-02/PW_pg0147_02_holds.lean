import PyProof.Rows.All
import Wide.All
import OpenK.AllK
import PySem.Syntax
import OpenK.ZBase
import OpenK.ZHead
import OpenK.ZDrive
import KE.KBytesWalk
import Wide.FinOn
import PySem.Challenge.RW_pg0147_02
set_option Elab.async false
section
namespace Mine
open PySem

inductive MV where
  | none
  | bool (b : Bool)
  | int (i : Int)
  | str (s : List Nat)
  | bytes (b : List Nat)
  | ref (i : Nat)
inductive MO where
  | list (xs : List MV)
  | tuple (xs : List MV)
  | range (a b c : Int)
  | barr (b : List Nat)
  | inst (d : Nat)
  | dict (as : List (Nat × MV))
inductive MF where
  | next | brk
  | ret (v : MV)
inductive MT where
  | one (i : Nat)
  | many (is : List Nat)
abbrev Lo := List (Option MV)
abbrev Hp := List MO
structure Kx where
  n₀ : Nat
  fz : List Nat
abbrev RE := Option (MV × Hp)
abbrev RT := Option (Bool × Hp)
abbrev RS := Option (MF × Lo × Hp)
abbrev CE := Kx → Lo → Hp → RE
abbrev CT := Kx → Lo → Hp → RT
abbrev CS := Kx → Lo → Hp → RS

noncomputable section
variable {α β γ : Type}
/-! Written with the recursors themselves: the kernel works these out. -/
def cnd (b : Bool) (x y : α) : α := Bool.rec (motive := fun _ => α) y x b
def bnd (x : Option (α × β)) (f : α → β → Option γ) : Option γ := Option.rec (motive := fun _ => Option γ) none (fun p => Prod.rec (motive := fun _ => Option γ) (fun a b => f a b) p) x
def bd1 (x : Option α) (f : α → Option γ) : Option γ := Option.rec (motive := fun _ => Option γ) none (fun a => f a) x
theorem bnd_some {x : Option (α × β)} {f : α → β → Option γ} {y : γ} : bnd x f = some y ↔ ∃ a b, x = some (a, b) ∧ f a b = some y := by
  cases x with
  | none => simp [bnd]
  | some p =>
    obtain ⟨a, b⟩ := p
    exact ⟨fun h => ⟨a, b, rfl, h⟩, fun ⟨a', b', e, h⟩ => by cases e; exact h⟩
theorem bd1_some {x : Option α} {f : α → Option γ} {y : γ} : bd1 x f = some y ↔ ∃ a, x = some a ∧ f a = some y := by
  cases x with
  | none => simp [bd1]
  | some a => exact ⟨fun h => ⟨a, rfl, h⟩, fun ⟨a', e, h⟩ => by cases e; exact h⟩
theorem cnd_eq (b : Bool) (x y : α) : cnd b x y = if b then x else y := by cases b <;> rfl

/-! These hand their argument on as it is; the kernel has it worked out first. -/
def frN (n : Nat) (k : Nat → β) : β := Nat.rec (motive := fun _ => β) (k 0) (fun m _ => k (Nat.succ m)) n
def frI (i : Int) (k : Int → β) : β := Int.rec (motive := fun _ => β) (fun n => frN n fun n => k (.ofNat n)) (fun n => frN n fun n => k (.negSucc n)) i
def frP (b : Bool) (k : Bool → β) : β := Bool.rec (motive := fun _ => β) (k false) (k true) b
def frNs (l : List Nat) : (List Nat → β) → β := List.rec (motive := fun _ => (List Nat → β) → β) (fun k => k []) (fun a _ ih k => frN a fun a => ih fun l => k (a :: l)) l
def frV (v : MV) (k : MV → β) : β := MV.rec (motive := fun _ => β) (k .none) (fun b => frP b fun b => k (.bool b)) (fun i => frI i fun i => k (.int i)) (fun s => frNs s fun s => k (.str s)) (fun s => frNs s fun s => k (.bytes s)) (fun i => frN i fun i => k (.ref i)) v
def frVs (l : List MV) : (List MV → β) → β := List.rec (motive := fun _ => (List MV → β) → β) (fun k => k []) (fun a _ ih k => frV a fun a => ih fun l => k (a :: l)) l
def frS (l : List α) : (List α → β) → β := List.rec (motive := fun _ => (List α → β) → β) (fun k => k []) (fun a _ ih k => ih fun l => k (a :: l)) l
theorem frN_eq (n : Nat) (k : Nat → β) : frN n k = k n := by cases n <;> rfl
theorem frI_eq (n : Int) (k : Int → β) : frI n k = k n := by
  cases n with
  | ofNat n => exact frN_eq n fun n => k (.ofNat n)
  | negSucc n => exact frN_eq n fun n => k (.negSucc n)
theorem frP_eq (b : Bool) (k : Bool → β) : frP b k = k b := by cases b <;> rfl
theorem frNs_eq (n : List Nat) (k : List Nat → β) : frNs n k = k n := by
  induction n generalizing k with
  | nil => rfl
  | cons a l ih => show frN a (fun a => frNs l fun l => k (a :: l)) = _; rw [frN_eq, ih]
theorem frV_eq (v : MV) (k : MV → β) : frV v k = k v := by
  cases v with
  | none => rfl
  | bool b => exact frP_eq b fun b => k (.bool b)
  | int i => exact frI_eq i fun b => k (.int b)
  | str s => exact frNs_eq s fun b => k (.str b)
  | bytes s => exact frNs_eq s fun b => k (.bytes b)
  | ref i => exact frN_eq i fun b => k (.ref b)
theorem frVs_eq (n : List MV) (k : List MV → β) : frVs n k = k n := by
  induction n generalizing k with
  | nil => rfl
  | cons a l ih => show frV a (fun a => frVs l fun l => k (a :: l)) = _; rw [frV_eq, ih]
theorem frS_eq (n : List α) (k : List α → β) : frS n k = k n := by
  induction n generalizing k with
  | nil => rfl
  | cons a l ih => show frS l (fun l => k (a :: l)) = _; rw [ih]

def len (l : List α) : Nat := List.rec (motive := fun _ => Nat) 0 (fun _ _ n => Nat.add n 1) l
theorem len_eq (l : List α) : len l = l.length := by
  induction l with
  | nil => rfl
  | cons a l ih => show Nat.add (len l) 1 = _; rw [ih]; rfl
def nth (l : List α) : Nat → Option α := List.rec (motive := fun _ => Nat → Option α) (fun _ => none) (fun a _ ih n => Nat.rec (motive := fun _ => Option α) (some a) (fun m _ => ih m) n) l
theorem nth_eq (l : List α) (i : Nat) : nth l i = l[i]? := by
  induction l generalizing i with
  | nil => rfl
  | cons a l ih => cases i with
    | zero => rfl
    | succ i => show nth l i = _; rw [ih]; rfl
def app (l y : List α) : List α := List.rec (motive := fun _ => List α) y (fun a _ ih => a :: ih) l
theorem app_eq (l y : List α) : app l y = l ++ y := by
  induction l with
  | nil => rfl
  | cons a l ih => show a :: app l y = _; rw [ih]; rfl
def setAt : List α → Nat → α → List α
  | [], _, _ => []
  | _ :: r, 0, v => v :: r
  | a :: r, n + 1, v => a :: setAt r n v
/-- put and hand on -/
def setK (l : List α) (n : Nat) (v : α) (k : List α → β) : β :=
  List.rec (motive := fun _ => Nat → (List α → β) → β) (fun _ k => k []) (fun a r ih n k => Nat.rec (motive := fun _ => β) (k (v :: r)) (fun m _ => ih m fun r => k (a :: r)) n) l n k
theorem setK_eq (l : List α) (n : Nat) (v : α) (k : List α → β) : setK l n v k = k (setAt l n v) := by
  induction l generalizing n k with
  | nil => rfl
  | cons a l ih => cases n with
    | zero => rfl
    | succ n => show setK l n v (fun r => k (a :: r)) = _; rw [ih]; rfl

def eqL (x : List Nat) : List Nat → Bool :=
  List.rec (motive := fun _ => List Nat → Bool) (fun y => List.rec (motive := fun _ => Bool) true (fun _ _ _ => false) y)
    (fun a _ ih y => List.rec (motive := fun _ => Bool) false (fun b y _ => cnd (Nat.beq a b) (ih y) false) y) x
theorem eqL_iff (x y : List Nat) : eqL x y = true ↔ x = y := by
  induction x generalizing y with
  | nil => cases y <;> simp [eqL]
  | cons a x ih => cases y with
    | nil => simp [eqL]
    | cons b y =>
      show cnd (Nat.beq a b) (eqL x y) false = true ↔ _
      rw [cnd_eq]
      split
      · rename_i h; rw [ih, Nat.eq_of_beq_eq_true h]; simp
      · rename_i h; simp; intro e; exact absurd (by rw [e]; exact Nat.beq_refl b) h
def memN : Nat → List Nat → Bool
  | _, [] => false
  | a, b :: l => cnd (Nat.beq a b) true (memN a l)
def Kx.mut (k : Kx) (i : Nat) : Bool := cnd (Nat.ble k.n₀ i) (cnd (memN i k.fz) false true) false
def getV (ρ : Lo) (i : Nat) : Option MV := Option.rec (motive := fun _ => Option MV) none (fun o => o) (nth ρ i)
def getO (σ : Hp) (i : Nat) : Option MO := nth σ i

def eqGo (f : MV → MV → Option Bool) (x : List MV) : List MV → Option Bool :=
  List.rec (motive := fun _ => List MV → Option Bool) (fun y => List.rec (motive := fun _ => Option Bool) (some true) (fun _ _ _ => none) y)
    (fun a _ ih y => List.rec (motive := fun _ => Option Bool) none (fun b y _ => bd1 (f a b) fun c => bd1 (ih y) fun d => some (cnd c d false)) y) x
def eqB2 : Bool → Bool → Bool
  | true, true => true
  | false, false => true
  | _, _ => false
def eqR (σ : Hp) (f : MV → MV → Option Bool) (i j : Nat) : Option Bool := match getO σ i, getO σ j with
  | some (.list x), some (.list y) => cnd (Nat.beq (len x) (len y)) (eqGo f x y) (some false)
  | some (.tuple x), some (.tuple y) => eqGo f x y
  | _, _ => none
/-- equality of values, n: the depth -/
def eqV (σ : Hp) : Nat → MV → MV → Option Bool
  | 0, _, _ => none
  | n + 1, a, b => match a, b with
    | .int x, .int y => some (W.Z.eqB x y)
    | .bool x, .bool y => some (eqB2 x y)
    | .bytes x, .bytes y => some (eqL x y)
    | .str x, .str y => some (eqL x y)
    | .ref i, .ref j => eqR σ (eqV σ n) i j
    | _, _ => none
/-- of one kind, an int or bytes -/
def kindB (a v : MV) : Bool := match a, v with
  | .int _, .int _ => true
  | .bytes _, .bytes _ => true
  | _, _ => false
def sameK (v : MV) (l : List MV) : Bool := List.rec (motive := fun _ => Bool) true (fun a _ ih => cnd (kindB a v) ih false) l
def eqB (a v : MV) : Bool := match a, v with
  | .int x, .int y => W.Z.eqB x y
  | .bytes x, .bytes y => eqL x y
  | _, _ => false
def anyB (v : MV) (l : List MV) : Bool := List.rec (motive := fun _ => Bool) false (fun a _ ih => cnd (eqB a v) true ih) l
def cntB (v : MV) (l : List MV) : Nat := List.rec (motive := fun _ => Nat) 0 (fun a _ ih => cnd (eqB a v) (Nat.add ih 1) ih) l
def inV (v : MV) (l : List MV) : Option Bool := cnd (sameK v l) (some (anyB v l)) none
def countV (v : MV) (l : List MV) : Option Nat := cnd (sameK v l) (some (cntB v l)) none

def intsOf : List MV → Option (List Int)
  | [] => some []
  | .int i :: r => bd1 (intsOf r) fun l => some (i :: l)
  | _ => none
def natsOf : List MV → Option (List Nat)
  | [] => some []
  | .int (.ofNat i) :: r => bd1 (natsOf r) fun l => cnd (Nat.blt i 256) (some (i :: l)) none
  | _ => none
def bytesOf : List MV → Option (List (List Nat))
  | [] => some []
  | .bytes i :: r => bd1 (bytesOf r) fun l => some (i :: l)
  | _ => none
def ins (a : Int) : List Int → List Int
  | [] => [a]
  | b :: l => cnd (W.Z.leB a b) (a :: b :: l) (b :: ins a l)
def sortI : List Int → List Int
  | [] => []
  | a :: l => ins a (sortI l)
def sumI : List Int → Int → Int
  | [], a => a
  | b :: l, a => sumI l (a + b)
def rep (n : Nat) (x : List α) : List α := Nat.rec (motive := fun _ => List α) [] (fun _ ih => app x ih) n
/-- the ints of range(a, b, c), c > 0; n: how many at most -/
def upto (b c : Int) (n : Nat) : Int → List MV := Nat.rec (motive := fun _ => Int → List MV) (fun _ => []) (fun _ ih a => cnd (W.Z.ltB a b) (.int a :: frI (a + c) ih) []) n
def rangeL (a b c : Int) : List MV := upto b c (b - a).toNat a

/-- a place in a sequence of n items -/
def place (i : Int) (n : Nat) : Option Nat := Int.rec (motive := fun _ => Option Nat) (fun k => cnd (Nat.blt k n) (some k) none) (fun k => cnd (Nat.blt k n) (some (n - (k + 1))) none) i
/-- a bound of a slice -/
def clip (n : Nat) (i : Int) : Nat := Int.rec (motive := fun _ => Nat) (fun k => cnd (Nat.ble n k) n k) (fun k => cnd (Nat.ble n (k + 1)) 0 (n - (k + 1))) i
def dropR (l : List α) : Nat → List α := List.rec (motive := fun _ => Nat → List α) (fun _ => []) (fun a r ih n => Nat.rec (motive := fun _ => List α) (a :: r) (fun m _ => ih m) n) l
def takeR (l : List α) : Nat → List α := List.rec (motive := fun _ => Nat → List α) (fun _ => []) (fun a _ ih n => Nat.rec (motive := fun _ => List α) [] (fun m _ => a :: ih m) n) l
theorem dropR_eq (l : List α) (n : Nat) : dropR l n = l.drop n := by
  induction l generalizing n with
  | nil => simp [dropR]
  | cons a l ih => cases n with
    | zero => rfl
    | succ n => show dropR l n = _; rw [ih]; rfl
theorem takeR_eq (l : List α) (n : Nat) : takeR l n = l.take n := by
  induction l generalizing n with
  | nil => simp [takeR]
  | cons a l ih => cases n with
    | zero => rfl
    | succ n => show a :: takeR l n = _; rw [ih]; rfl
def bound (d : Nat) (n : Nat) (o : Option Int) : Nat := Option.rec (motive := fun _ => Nat) d (fun i => clip n i) o
def cut (l u : Option Int) (x : List α) : List α :=
  frN (len x) fun n => frN (bound 0 n l) fun a => frN (bound n n u) fun b => takeR (dropR x a) (b - a)

/-- no longer than the model's line -/
def chk (l : List α) (x : Option β) : Option β := cnd (Nat.ble (len l) 1000000) x none
def small (i : Int) : Bool := Nat.blt (Int.natAbs i) 1073741824
theorem chk_some {l : List α} {x : Option β} {y : β} : chk l x = some y ↔ l.length ≤ 1000000 ∧ x = some y := by
  unfold chk
  rw [cnd_eq, len_eq]
  split
  · rename_i h; simp [Nat.le_of_ble_eq_true h]
  · rename_i h; simp; intro q; exact absurd (Nat.ble_eq_true_of_le q) h
/-- a new object -/
def new (σ : Hp) (o : MO) : RE := frN (len σ) fun n => frS (app σ [o]) fun σ => some (.ref n, σ)
def newL (σ : Hp) (x : List MV) : RE := frVs x fun x => new σ (.list x)
def retI (σ : Hp) (i : Int) : RE := frI i fun i => some (.int i, σ)
def retN (σ : Hp) (i : Nat) : RE := frN i fun i => some (.int (.ofNat i), σ)
def addV (σ : Hp) (a b : MV) : RE := match a, b with
  | .int x, .int y => retI σ (x + y)
  | .str x, .str y => frS (app x y) fun z => chk z (some (.str z, σ))
  | .bytes x, .bytes y => frS (app x y) fun z => chk z (some (.bytes z, σ))
  | .ref i, .ref j => match getO σ i, getO σ j with
    | some (.list x), some (.list y) => frS (app x y) fun z => chk z (new σ (.list z))
    | _, _ => none
  | _, _ => none
/-- in place -/
def iadV (σ : Hp) (a b : MV) : RE := match a, b with
  | .int x, .int y => retI σ (x + y)
  | .str x, .str y => frS (app x y) fun z => chk z (some (.str z, σ))
  | _, _ => none
def subV (σ : Hp) (a b : MV) : RE := match a, b with
  | .int x, .int y => retI σ (x - y)
  | _, _ => none
def mulV (σ : Hp) (a b : MV) : RE := match a, b with
  | .int x, .int y => cnd (small x) (retI σ (x * y)) none
  | .str x, .int n => frS (rep n.toNat x) fun z => cnd (small n) (chk z (some (.str z, σ))) none
  | .ref i, .int n => match getO σ i with
    | some (.list [x]) => frS (rep n.toNat [x]) fun z => cnd (small n) (chk z (new σ (.list z))) none
    | _ => none
  | _, _ => none
def divV (σ : Hp) (a b : MV) : RE := match a, b with
  | .int x, .int y => cnd (W.Z.ltB 0 y) (cnd (small y) (retI σ (Int.fdiv x y)) none) none
  | _, _ => none
def modV (σ : Hp) (a b : MV) : RE := match a, b with
  | .int x, .int y => cnd (W.Z.ltB 0 y) (retI σ (Int.fmod x y)) none
  | _, _ => none
def powV (σ : Hp) (a b : MV) : RE := match a, b with
  | .int (.ofNat m), .int (.ofNat n) => cnd (Nat.ble n 30) (cnd (Nat.ble m 30) (retN σ (m ^ n)) none) none
  | _, _ => none

def eqC (σ : Hp) (a b : MV) : Option Bool := eqV σ 5 a b
def neC (σ : Hp) (a b : MV) : Option Bool := bd1 (eqV σ 5 a b) fun c => some (cnd c false true)
def ltC (_ : Hp) (a b : MV) : Option Bool := match a, b with
  | .int x, .int y => some (W.Z.ltB x y)
  | _, _ => none
def leC (_ : Hp) (a b : MV) : Option Bool := match a, b with
  | .int x, .int y => some (W.Z.leB x y)
  | _, _ => none
def geC (σ : Hp) (a b : MV) : Option Bool := leC σ b a
def inC (σ : Hp) (a b : MV) : Option Bool := match b with
  | .ref j => match getO σ j with
    | some (.list y) => inV a y
    | _ => none
  | _ => none
def ninC (σ : Hp) (a b : MV) : Option Bool := bd1 (inC σ a b) fun c => some (cnd c false true)

def item (x : List α) (i : Int) : Option α := frN (len x) fun n => bd1 (place i n) fun k => nth x k
def getItemV (σ : Hp) (a i : MV) : Option MV := match a, i with
  | .bytes x, .int i => Int.rec (motive := fun _ => Option MV) (fun p => chk x (bd1 (nth x p) fun c => frN c fun c => some (.int (.ofNat c)))) (fun _ => none) i
  | .ref j, .int i => match getO σ j with
    | some (.list x) => item x i
    | some (.tuple x) => chk x (item x i)
    | _ => none
  | _, _ => none
def optI : Option MV → Option (Option Int)
  | none => some none
  | some (.int i) => some (some i)
  | _ => none
def cutV (σ : Hp) (a : MV) (l u : Option Int) : RE := match a with
  | .bytes x => chk x (frS (cut l u x) fun z => some (.bytes z, σ))
  | .ref j => match getO σ j with
    | some (.list x) => frS (cut l u x) fun z => new σ (.list z)
    | _ => none
  | _ => none
def sliceV (σ : Hp) (a : MV) (l u : Option MV) : RE := bd1 (optI l) fun l => bd1 (optI u) fun u => cutV σ a l u
def revV (σ : Hp) (a : MV) : RE := match a with
  | .ref j => match getO σ j with
    | some (.list x) => frS x.reverse fun z => new σ (.list z)
    | _ => none
  | _ => none

def lenV (σ : Hp) (a : MV) : RE := match a with
  | .bytes x => chk x (retN σ (len x))
  | .ref j => match getO σ j with
    | some (.list x) => retN σ (len x)
    | some (.tuple x) => chk x (retN σ (len x))
    | _ => none
  | _ => none
def range2V (σ : Hp) (a b : MV) : RE := match a, b with
  | .int a, .int b => cnd (small a) (cnd (small b) (new σ (.range a b 1)) none) none
  | _, _ => none
def bytesV (σ : Hp) (a : MV) : RE := match a with
  | .ref j => match getO σ j with
    | some (.list x) => bd1 (natsOf x) fun l => frNs l fun l => some (.bytes l, σ)
    | some (.barr x) => chk x (some (.bytes x, σ))
    | _ => none
  | _ => none
def barrV (σ : Hp) (a : MV) : RE := match a with
  | .int (.ofNat n) => cnd (Nat.ble n 1000000) (frNs (rep n [0]) fun z => new σ (.barr z)) none
  | _ => none
def sortedV (σ : Hp) (a : MV) : RE := match a with
  | .ref j => match getO σ j with
    | some (.list x) => cnd (Nat.ble (len x) 60) (bd1 (intsOf x) fun l => newL σ ((sortI l).map .int)) none
    | _ => none
  | _ => none
def sumV (σ : Hp) (a : MV) : RE := match a with
  | .ref j => match getO σ j with
    | some (.list x) => bd1 (intsOf x) fun l => retI σ (sumI l 0)
    | _ => none
  | _ => none
def intV (σ : Hp) (a : MV) : RE := match a with
  | .int i => some (.int i, σ)
  | _ => none
def tupleV (σ : Hp) (a : MV) : RE := match a with
  | .ref j => match getO σ j with
    | some (.list x) => new σ (.tuple x)
    | _ => none
  | _ => none
def maxV (σ : Hp) (a b : MV) : RE := match a, b with
  | .int a, .int b => retI σ (cnd (W.Z.ltB a b) b a)
  | _, _ => none
def isbV (σ : Hp) (a : MV) : RE := match a with
  | .bytes _ => some (.bool true, σ)
  | _ => none

def appendV (k : Kx) (σ : Hp) (a y : MV) : RE := match a with
  | .ref j => cnd (k.mut j) (match getO σ j with
    | some (.list x) => frS (app x [y]) fun z => chk z (setK σ j (.list z) fun σ => some (.none, σ))
    | _ => none) none
  | _ => none
def countLV (_ : Kx) (σ : Hp) (a y : MV) : RE := match a with
  | .ref j => match getO σ j with
    | some (.list x) => bd1 (countV y x) fun n => retN σ n
    | _ => none
  | _ => none
def joinV (_ : Kx) (σ : Hp) (a y : MV) : RE := match a, y with
  | .bytes [], .ref j => match getO σ j with
    | some (.list x) => bd1 (bytesOf x) fun l => frNs l.flatten fun z => cnd (Nat.ble (len z) 1000000) (some (.bytes z, σ)) none
    | _ => none
  | _, _ => none

def putAt (k : Kx) (σ : Hp) (j : Nat) (i : Int) (v : MV) : Option Hp := cnd (k.mut j) (Int.rec (motive := fun _ => Option Hp) (fun p => match getO σ j with
    | some (.list x) => cnd (Nat.blt p (len x)) (setK x p v fun x => setK σ j (.list x) some) none
    | some (.barr x) => match v with
      | .int (.ofNat c) => cnd (Nat.ble (len x) 1000000) (cnd (Nat.blt c 256) (cnd (Nat.blt p (len x)) (setK x p c fun x => setK σ j (.barr x) some) none) none) none
      | _ => none
    | _ => none) (fun _ => none) i) none
def setItemV (k : Kx) (σ : Hp) (a i v : MV) : Option Hp := match a, i with
  | .ref j, .int i => putAt k σ j i v
  | _, _ => none

def putA : List (Nat × MV) → Nat → MV → List (Nat × MV)
  | [], a, v => [(a, v)]
  | (b, u) :: r, a, v => cnd (Nat.beq b a) ((b, v) :: r) ((b, u) :: putA r a v)
def findA : List (Nat × MV) → Nat → Option MV
  | [], _ => none
  | (b, u) :: r, a => cnd (Nat.beq b a) (some u) (findA r a)
def getAttrV (σ : Hp) (a : MV) (n : Nat) : Option MV := match a with
  | .ref j => match getO σ j with
    | some (.inst d) => match getO σ d with
      | some (.dict as) => findA as n
      | _ => none
    | _ => none
  | _ => none
def setAttrV (k : Kx) (σ : Hp) (a : MV) (n : Nat) (v : MV) : Option Hp := match a with
  | .ref j => match getO σ j with
    | some (.inst d) => cnd (k.mut d) (match getO σ d with
      | some (.dict as) => cnd (Nat.ble (len as) 100) (cnd (Nat.blt n 5) (frS (putA as n v) fun as => setK σ d (.dict as) some) none) none
      | _ => none) none
    | _ => none
  | _ => none

def setMany : Lo → List Nat → List MV → Option Lo
  | ρ, [], [] => some ρ
  | ρ, i :: r, v :: vs => setK ρ i (some v) fun ρ => setMany ρ r vs
  | _, _, _ => none
def unpackV (σ : Hp) (ρ : Lo) (is : List Nat) (v : MV) : Option Lo := match v with
  | .ref j => match getO σ j with
    | some (.tuple x) => setMany ρ is x
    | _ => none
  | _ => none
def bindT (σ : Hp) (ρ : Lo) (t : MT) (v : MV) : Option Lo := MT.rec (motive := fun _ => Option Lo) (fun i => setK ρ i (some v) some) (fun is => unpackV σ ρ is v) t

/-- the items that an iteration takes: the place in the store of what must stand still, and the items -/
inductive Its where
  | plain (fz : Option Nat) (xs : List MV)
  | enum (fz : Option Nat) (xs : List MV)
abbrev CI := Kx → Lo → Hp → Option (Its × Hp)
def itemsV (σ : Hp) (v : MV) : Option (Option Nat × List MV) := match v with
  | .str s => frVs (s.map fun c => .str [c]) fun z => some (none, z)
  | .ref j => match getO σ j with
    | some (.list x) => some (some j, x)
    | some (.tuple x) => some (some j, x)
    | some (.range a b c) => cnd (W.Z.ltB 0 c) (cnd (small a) (cnd (small b) (cnd (small c) (frVs (rangeL a b c) fun z => some (none, z)) none) none) none) none
    | _ => none
  | _ => none
def Kx.still (k : Kx) : Option Nat → Kx
  | none => k
  | some j => ⟨k.n₀, j :: k.fz⟩
def rangeV (σ : Hp) (as : List MV) : Option (Its × Hp) := match as with
  | [.int b] => cnd (small b) (frVs (rangeL 0 b 1) fun z => some (.plain none z, σ)) none
  | [.int a, .int b] => cnd (small a) (cnd (small b) (frVs (rangeL a b 1) fun z => some (.plain none z, σ)) none) none
  | [.int a, .int b, .int c] => cnd (W.Z.ltB 0 c) (cnd (small a) (cnd (small b) (cnd (small c) (frVs (rangeL a b c) fun z => some (.plain none z, σ)) none) none) none) none
  | _ => none

def bndS (x : RS) (f : MF → Lo → Hp → RS) : RS := Option.rec (motive := fun _ => RS) none (fun p => Prod.rec (motive := fun _ => RS) (fun a q => Prod.rec (motive := fun _ => RS) (fun ρ σ => f a ρ σ) q) p) x
/-- what follows a turn -/
def turnOn (x : RS) (f : Lo → Hp → RS) : RS := bndS x fun a ρ σ => MF.rec (motive := fun _ => RS) (f ρ σ) (some (.next, ρ, σ)) (fun v => some (.ret v, ρ, σ)) a
/-- what follows a statement -/
def andThen (x : RS) (f : Lo → Hp → RS) : RS := bndS x fun a ρ σ => MF.rec (motive := fun _ => RS) (f ρ σ) (some (.brk, ρ, σ)) (fun v => some (.ret v, ρ, σ)) a
def forP (body : Lo → Hp → RS) (t : MT) (l : List MV) : Lo → Hp → RS :=
  List.rec (motive := fun _ => Lo → Hp → RS) (fun ρ σ => some (.next, ρ, σ)) (fun v _ ih ρ σ => bd1 (bindT σ ρ t v) fun ρ => turnOn (body ρ σ) ih) l
def forE (body : Lo → Hp → RS) (i j : Nat) (l : List MV) : Nat → Lo → Hp → RS :=
  List.rec (motive := fun _ => Nat → Lo → Hp → RS) (fun _ ρ σ => some (.next, ρ, σ))
    (fun v _ ih n ρ σ => frN n fun n => setK ρ i (some (.int (.ofNat n))) fun ρ => setK ρ j (some v) fun ρ => turnOn (body ρ σ) (ih (Nat.add n 1))) l
def loopI (t : MT) (its : Its) (body : CS) (k : Kx) (ρ : Lo) (σ : Hp) : RS := match its with
  | .plain f xs => forP (body (k.still f)) t xs ρ σ
  | .enum f xs => match t with
    | .many [i, j] => forE (body (k.still f)) i j xs 0 ρ σ
    | _ => none
def capture (ρ : Lo) : List (Option Nat) → Lo
  | [] => []
  | none :: r => none :: capture ρ r
  | some j :: r => getV ρ j :: capture ρ r
def bindP : Lo → List Nat → List MV → Option Lo
  | ρ, [], [] => some ρ
  | ρ, i :: r, v :: vs => setK ρ i (some v) fun ρ => bindP ρ r vs
  | _, _, _ => none

/-! ## expressions -/
def evs (l : List CE) (k : Kx) (ρ : Lo) : Hp → Option (List MV × Hp) :=
  List.rec (motive := fun _ => Hp → Option (List MV × Hp)) (fun σ => some ([], σ)) (fun c _ ih σ => bnd (c k ρ σ) fun v σ => bnd (ih σ) fun vs σ => some (v :: vs, σ)) l
def cVal (v : MV) : CE := fun _ _ σ => some (v, σ)
def cLoc (i : Nat) : CE := fun _ ρ σ => bd1 (getV ρ i) fun v => some (v, σ)
def cBin (f : Hp → MV → MV → RE) (l x : CE) : CE := fun k ρ σ => bnd (l k ρ σ) fun a σ => bnd (x k ρ σ) fun b σ => f σ a b
def cCmp (f : Hp → MV → MV → Option Bool) (l x : CE) : CE := fun k ρ σ => bnd (l k ρ σ) fun a σ => bnd (x k ρ σ) fun b σ => bd1 (f σ a b) fun c => frP c fun c => some (.bool c, σ)
/-- what a def of the text answers: the store, its arguments -/
abbrev FS := Hp → List MV → RE
def cCall (F : FS) (xs : List CE) : CE := fun k ρ σ => bnd (evs xs k ρ σ) fun vs σ => F σ vs
def cB1 (f : Hp → MV → RE) (x : CE) : CE := fun k ρ σ => bnd (x k ρ σ) fun a σ => f σ a
def cB2 (f : Hp → MV → MV → RE) (x y : CE) : CE := fun k ρ σ => bnd (x k ρ σ) fun a σ => bnd (y k ρ σ) fun b σ => f σ a b
def cNew (F : FS) (x : CE) : CE := fun k ρ σ => bnd (x k ρ σ) fun a σ => F σ [a]
/-- what a method is looked up on -/
def isL (σ : Hp) (a : MV) : Bool := match a with
  | .ref j => match getO σ j with
    | some (.list _) => true
    | _ => false
  | _ => false
def isBy (_ : Hp) (a : MV) : Bool := match a with
  | .bytes _ => true
  | _ => false
def cMeth (q : Hp → MV → Bool) (f : Kx → Hp → MV → MV → RE) (x y : CE) : CE := fun k ρ σ => bnd (x k ρ σ) fun a σ => cnd (q σ a) (bnd (y k ρ σ) fun b σ => f k σ a b) none
def isI (σ : Hp) (a : MV) : Bool := match a with
  | .ref j => match getO σ j with
    | some (.inst d) => match getO σ d with
      | some (.dict _) => true
      | _ => false
    | _ => false
  | _ => false
def cIm (F : FS) (x : CE) (ys : List CE) : CE := fun k ρ σ => bnd (x k ρ σ) fun a σ => cnd (isI σ a) (bnd (evs ys k ρ σ) fun vs σ => F σ (a :: vs)) none
def cAttr (x : CE) (n : Nat) : CE := fun k ρ σ => bnd (x k ρ σ) fun v σ => bd1 (getAttrV σ v n) fun u => some (u, σ)
def cSub (x i : CE) : CE := fun k ρ σ => bnd (x k ρ σ) fun a σ => bnd (i k ρ σ) fun b σ => bd1 (getItemV σ a b) fun u => some (u, σ)
def evo (o : Option CE) (k : Kx) (ρ : Lo) (σ : Hp) : Option (Option MV × Hp) := match o with
  | none => some (none, σ)
  | some c => bnd (c k ρ σ) fun v σ => some (some v, σ)
def cSlc (x : CE) (l u : Option CE) : CE := fun k ρ σ => bnd (x k ρ σ) fun a σ => bnd (evo l k ρ σ) fun l σ => bnd (evo u k ρ σ) fun u σ => sliceV σ a l u
def cRev (x : CE) : CE := fun k ρ σ => bnd (x k ρ σ) fun a σ => revV σ a
def cLst (xs : List CE) : CE := fun k ρ σ => bnd (evs xs k ρ σ) fun vs σ => new σ (.list vs)
def cTup (xs : List CE) : CE := fun k ρ σ => bnd (evs xs k ρ σ) fun vs σ => new σ (.tuple vs)

def iE (e : CE) : CI := fun k ρ σ => bnd (e k ρ σ) fun v σ => bnd (itemsV σ v) fun f xs => some (.plain f xs, σ)
def listV? (σ : Hp) (v : MV) : Option (Nat × List MV) := match v with
  | .ref j => match getO σ j with
    | some (.list x) => some (j, x)
    | _ => none
  | _ => none
def iN (e : CE) : CI := fun k ρ σ => bnd (e k ρ σ) fun v σ => bnd (listV? σ v) fun j xs => some (.enum (some j) xs, σ)
def iR (xs : List CE) : CI := fun k ρ σ => bnd (evs xs k ρ σ) fun as σ => rangeV σ as

/-- the tests behind one clause, then the rest -/
def gIfs (ts : List CT) (c : CS) : CS := fun k ρ => List.rec (motive := fun _ => Hp → RS) (fun σ => c k ρ σ) (fun t _ ih σ => bnd (t k ρ σ) fun b σ => cnd b (ih σ) (some (.next, ρ, σ))) ts
def gEmit (acc : Nat) (e : CE) : CS := fun k ρ σ => bnd (e k ρ σ) fun v σ => bnd (appendV k σ (.ref acc) v) fun _ σ => some (.next, ρ, σ)
def nxtO (x : RS) (f : Lo → Hp → Option α) : Option α := match x with
  | some (.next, ρ, σ) => f ρ σ
  | _ => none
def cComp (t : MT) (it : CI) (c : Nat → CS) (cap : List (Option Nat)) : CE := fun k ρ σ => bnd (it k ρ σ) fun its σ => frN (len σ) fun n => frS (app σ [.list []]) fun σ =>
  frS (capture ρ cap) fun ρ => nxtO (loopI t its (c n) k ρ σ) fun _ σ => some (.ref n, σ)

/-! ## tests -/
def tNot (x : CT) : CT := fun k ρ σ => bnd (x k ρ σ) fun b σ => cnd b (some (false, σ)) (some (true, σ))
def tCmp (f : Hp → MV → MV → Option Bool) (l x : CE) : CT := fun k ρ σ => bnd (l k ρ σ) fun a σ => bnd (x k ρ σ) fun b σ => bd1 (f σ a b) fun c => frP c fun c => some (c, σ)
def tVal (x : CE) : CT := fun k ρ σ => bnd (x k ρ σ) fun v σ => match v with
  | .bool b => some (b, σ)
  | _ => none
def tAnd (l : List CT) : CT := fun k ρ => List.rec (motive := fun _ => Hp → RT) (fun σ => some (true, σ)) (fun t _ ih σ => bnd (t k ρ σ) fun b σ => cnd b (ih σ) (some (false, σ))) l
def tOr (l : List CT) : CT := fun k ρ => List.rec (motive := fun _ => Hp → RT) (fun σ => some (false, σ)) (fun t _ ih σ => bnd (t k ρ σ) fun b σ => cnd b (some (true, σ)) (ih σ)) l

/-! ## statements -/
def sNm (i : Nat) (e : CE) : CS := fun k ρ σ => bnd (e k ρ σ) fun v σ => setK ρ i (some v) fun ρ => some (.next, ρ, σ)
def sTp (is : List Nat) (e : CE) : CS := fun k ρ σ => bnd (e k ρ σ) fun v σ => bd1 (unpackV σ ρ is v) fun ρ => some (.next, ρ, σ)
def setAll (v : MV) (is : List Nat) : Lo → (Lo → RS) → RS := List.rec (motive := fun _ => Lo → (Lo → RS) → RS) (fun ρ k => k ρ) (fun i _ ih ρ k => setK ρ i (some v) fun ρ => ih ρ k) is
def sMul (is : List Nat) (e : CE) : CS := fun k ρ σ => bnd (e k ρ σ) fun v σ => setAll v is ρ fun ρ => some (.next, ρ, σ)
def sSb (x i e : CE) : CS := fun k ρ σ => bnd (e k ρ σ) fun v σ => bnd (x k ρ σ) fun a σ => bnd (i k ρ σ) fun b σ => bd1 (setItemV k σ a b v) fun σ => some (.next, ρ, σ)
def sAt (x : CE) (n : Nat) (e : CE) : CS := fun k ρ σ => bnd (e k ρ σ) fun v σ => bnd (x k ρ σ) fun a σ => bd1 (setAttrV k σ a n v) fun σ => some (.next, ρ, σ)
def sAugN (i : Nat) (f : Hp → MV → MV → RE) (e : CE) : CS := fun k ρ σ => bd1 (getV ρ i) fun a => bnd (e k ρ σ) fun b σ => match a with
  | .ref _ => none
  | _ => bnd (f σ a b) fun v σ => setK ρ i (some v) fun ρ => some (.next, ρ, σ)
def iaddV (k : Kx) (σ : Hp) (a b : MV) : Option Hp := match a, b with
  | .ref j, .ref q => cnd (k.mut j) (match getO σ j, getO σ q with
    | some (.list x), some (.list y) => cnd (Nat.beq j q) none (frS (app x y) fun z => chk z (setK σ j (.list z) some))
    | _, _ => none) none
  | _, _ => none
def sAugL (i : Nat) (e : CE) : CS := fun k ρ σ => bd1 (getV ρ i) fun a => bnd (e k ρ σ) fun b σ => bd1 (iaddV k σ a b) fun σ => some (.next, ρ, σ)
def sExp (e : CE) : CS := fun k ρ σ => bnd (e k ρ σ) fun _ σ => some (.next, ρ, σ)
def sFor (t : MT) (it : CI) (c : CS) : CS := fun k ρ σ => bnd (it k ρ σ) fun its σ => loopI t its c k ρ σ
def sIf (t : CT) (a b : CS) : CS := fun k ρ σ => bnd (t k ρ σ) fun c σ => cnd c (a k ρ σ) (b k ρ σ)
def sRet (e : CE) : CS := fun k ρ σ => bnd (e k ρ σ) fun v σ => some (.ret v, ρ, σ)
def sBrk : CS := fun _ ρ σ => some (.brk, ρ, σ)
def sSeq (l : List CS) : CS := fun k => List.rec (motive := fun _ => Lo → Hp → RS) (fun ρ σ => some (.next, ρ, σ)) (fun c _ ih ρ σ => andThen (c k ρ σ) ih) l

/-! ## defs -/
def retF (x : RS) : RE := Option.rec (motive := fun _ => RE) none (fun p => Prod.rec (motive := fun _ => RE) (fun a q => Prod.rec (motive := fun _ => RE) (fun _ σ => MF.rec (motive := fun _ => RE) (some (.none, σ)) none (fun v => some (v, σ)) a) q) p) x
/-- a def: its names' number, the places of its parameters, its body -/
def fDef (nv : Nat) (ps : List Nat) (body : CS) : FS := fun σ as => frN (len σ) fun n => bd1 (frS (rep nv [none]) fun ρ => bindP ρ ps as) fun ρ => retF (body ⟨n, []⟩ ρ σ)
/-- a class called: a new instance, then __init__'s body -/
def fNew (nv : Nat) (ps : List Nat) (body : CS) : FS := fun σ as => frN (len σ) fun n => frN (Nat.succ n) fun m => frS (app σ [.inst m, .dict []]) fun σ =>
  bd1 (frS (rep nv [none]) fun ρ => bindP ρ ps (.ref n :: as)) fun ρ => made n (retF (body ⟨n, []⟩ ρ σ))
where
  made (n : Nat) (x : RE) : RE := bnd x fun v σ => match v with
    | .none => some (.ref n, σ)
    | _ => none
end
end Mine
end

section
namespace Mine
open PySem PyProof.Rows

/-! ## values, objects -/
def VR (φ : List Addr) (v : Value) : MV → Prop
  | .none => v = .none
  | .bool b => v = .bool b
  | .int i => ∃ t, v = .int i t
  | .str s => ∃ t, v = .str ⟨s.toArray⟩ t
  | .bytes b => (∀ c ∈ b, c < 256) ∧ ∃ t, v = .bytes (b.map UInt8.ofNat).toArray t
  | .ref i => ∃ a, φ[i]? = some a ∧ v = .ref a
def VRs (φ : List Addr) : List Value → List MV → Prop
  | [], [] => True
  | v :: vs, m :: ms => VR φ v m ∧ VRs φ vs ms
  | _, _ => False
theorem VR.mono {φ t : List Addr} {v : Value} {m : MV} (h : VR φ v m) : VR (φ ++ t) v m := by
  cases m with
  | ref i =>
    obtain ⟨a, e, rfl⟩ := h
    exact ⟨a, by rw [List.getElem?_append_left (List.getElem?_eq_some_iff.mp e).1, e], rfl⟩
  | _ => exact h
theorem VRs.mono {φ t : List Addr} : ∀ {vs : List Value} {ms : List MV}, VRs φ vs ms → VRs (φ ++ t) vs ms
  | [], [], _ => trivial
  | _ :: _, _ :: _, h => ⟨h.1.mono, VRs.mono h.2⟩
  | [], _ :: _, h => h.elim
  | _ :: _, [], h => h.elim
theorem VRs.length {φ : List Addr} : ∀ {vs : List Value} {ms : List MV}, VRs φ vs ms → vs.length = ms.length
  | [], [], _ => rfl
  | _ :: vs, _ :: ms, h => congrArg (· + 1) (VRs.length h.2)
  | [], _ :: _, h => h.elim
  | _ :: _, [], h => h.elim
theorem VRs.get {φ : List Addr} : ∀ {vs : List Value} {ms : List MV} {i : Nat} {m : MV}, VRs φ vs ms → ms[i]? = some m → ∃ v, vs[i]? = some v ∧ VR φ v m
  | [], [], _, _, _, e => by simp at e
  | v :: vs, m :: ms, 0, _, h, e => by simp at e; subst e; exact ⟨v, rfl, h.1⟩
  | v :: vs, m :: ms, i + 1, _, h, e => by
    obtain ⟨u, e', r⟩ := VRs.get (i := i) h.2 (by simpa using e)
    exact ⟨u, by simpa using e', r⟩
  | [], _ :: _, _, _, h, _ => h.elim
  | _ :: _, [], _, _, h, _ => h.elim
theorem len_two {α : Type} : ∀ {l : List α}, l.length = 2 → ∃ a b, l = [a, b]
  | [a, b], _ => ⟨a, b, rfl⟩
theorem VRs.one {φ : List Addr} {m : MV} : ∀ {vs : List Value}, VRs φ vs [m] → ∃ v, vs = [v] ∧ VR φ v m
  | [v], h => ⟨v, rfl, h.1⟩
  | _ :: _ :: _, h => h.2.elim
  | [], h => h.elim
theorem VRs.two {φ : List Addr} {m m' : MV} {vs : List Value} (h : VRs φ vs [m, m']) : ∃ v v', vs = [v, v'] ∧ VR φ v m ∧ VR φ v' m' := by
  cases vs with
  | nil => exact h.elim
  | cons v vs =>
    obtain ⟨v', rfl, r⟩ := VRs.one h.2
    exact ⟨v, v', rfl, h.1, r⟩
theorem VRs.three {φ : List Addr} {m m' m'' : MV} {vs : List Value} (h : VRs φ vs [m, m', m'']) : ∃ v v' v'', vs = [v, v', v''] ∧ VR φ v m ∧ VR φ v' m' ∧ VR φ v'' m'' := by
  cases vs with
  | nil => exact h.elim
  | cons v vs =>
    obtain ⟨v', v'', rfl, r⟩ := VRs.two h.2
    exact ⟨v, v', v'', rfl, h.1, r⟩
theorem VRs.append {φ : List Addr} : ∀ {vs us : List Value} {ms ns : List MV}, VRs φ vs ms → VRs φ us ns → VRs φ (vs ++ us) (ms ++ ns)
  | [], _, [], _, _, h => h
  | _ :: _, _, _ :: _, _, h, h' => ⟨h.1, VRs.append h.2 h'⟩
  | [], _, _ :: _, _, h, _ => h.elim
  | _ :: _, _, [], _, h, _ => h.elim

/-- the names of an instance's attributes -/
def attrN : List Str := ["raw", "n", "nt", "norm", "is_simple"]
/-- an object; C: the class's address -/
def OR (C : Addr) (φ : List Addr) (o : Obj) : MO → Prop
  | .list xs => ∃ vs n, o = { cls := .type "list", data := .seq vs.toArray n } ∧ VRs φ vs xs ∧ vs.length ≤ 1000000
  | .tuple xs => ∃ vs, o = { cls := .type "tuple", data := .seq vs.toArray } ∧ VRs φ vs xs
  | .range a b c => ∃ t u v, o = { cls := .type "range", data := .fields #[.int a t, .int b u, .int c v] }
  | .barr b => (∀ c ∈ b, c < 256) ∧ o = { cls := .type "bytearray", data := .bytearray (b.map UInt8.ofNat).toArray }
  | .inst d => ∃ a, φ[d]? = some a ∧ o = { cls := .ref C, dict := some a }
  | .dict as => ∃ es ep, o.data = .dict es ep ∧ StrKeys es ∧ es.size ≤ as.length ∧ (∀ a mv, findA as a = some mv → ∃ x v, attrN[a]? = some x ∧ nsFind es x = some v ∧ VR φ v mv) ∧ ∀ x v, nsFind es x = some v → ∃ (a : Nat) (mv : MV), attrN[a]? = some x ∧ findA as a = some mv
theorem OR.mono {C : Addr} {φ t : List Addr} {o : Obj} {m : MO} (h : OR C φ o m) : OR C (φ ++ t) o m := by
  cases m with
  | list xs => obtain ⟨vs, n, e, r, l⟩ := h; exact ⟨vs, n, e, r.mono, l⟩
  | tuple xs => obtain ⟨vs, e, r⟩ := h; exact ⟨vs, e, r.mono⟩
  | range a b c => exact h
  | barr b => exact h
  | inst d =>
    obtain ⟨a, e, r⟩ := h
    exact ⟨a, by rw [List.getElem?_append_left (List.getElem?_eq_some_iff.mp e).1, e], r⟩
  | dict as =>
    obtain ⟨es, ep, a, b, c, d, e⟩ := h
    refine ⟨es, ep, a, b, c, fun n mv hp => ?_, e⟩
    obtain ⟨x, v, e1, e2, r⟩ := d n mv hp
    exact ⟨x, v, e1, e2, r.mono⟩
end Mine
end

section
namespace Mine
open PySem PyProof.Rows

abbrev HExt (h h' : Heap) : Prop := ∀ b o, h.get? b = some o → h'.get? b = some o

/-- what a frame and its store stand for in a heap -/
structure Stt (hB : Heap) (C : Addr) (env : Env) (nm : List (Str × NameKind)) (own : List Addr) (k : Kx) (φ : List Addr) (ρ : Lo) (σ : Hp) (h : Heap) : Prop where
  names : ∀ (i : Nat) (x : Str) (kd : NameKind), nm[i]? = some (x, kd) → env.kindOf x = some kd ∨ (kd = .free ∧ env.kindOf x = some .cell)
  ocel : ∀ (i : Nat) (x : Str), nm[i]? = some (x, .cell) → ∃ c ∈ own, env.cells.lookup x = some c
  kind : env.scope.kind = .function
  glob : env.globals = mainGlobals
  blt : env.builtins = builtinsNs
  ndn : (nm.map (·.1)).Nodup
  locl : env.locals ∈ own
  loc : ∃ m, h.Ns env.locals m ∧ ∀ (i : Nat) (x : Str) (mv : MV), nm[i]? = some (x, .local) → getV ρ i = some mv → ∃ v, m x = some v ∧ VR φ v mv
  cel : ∀ (i : Nat) (x : Str) (kd : NameKind), nm[i]? = some (x, kd) → (kd = .cell ∨ kd = .free) → ∃ c o, env.cells.lookup x = some c ∧ h.IsCell c o ∧ ∀ mv, getV ρ i = some mv → ∃ v, o = some v ∧ VR φ v mv
  cinj : ∀ x y c, env.cells.lookup x = some c → env.cells.lookup y = some c → x = y
  cnm : ∀ x c, env.cells.lookup x = some c → ∃ (i : Nat) (kd : NameKind), nm[i]? = some (x, kd) ∧ (kd = .cell ∨ kd = .free)
  len : φ.length = σ.length
  obj : ∀ (i : Nat) (mo : MO), σ[i]? = some mo → ∃ a o, φ[i]? = some a ∧ h.get? a = some o ∧ OR C φ o mo
  nd : (own ++ φ).Nodup
  base : HExt hB h
  hown : ∀ b ∈ own, hB.get? b = none
  olt : ∀ b ∈ own, ∃ o, h.get? b = some o
  hphi : ∀ (i : Nat) (a : Addr), k.n₀ ≤ i → φ[i]? = some a → hB.get? a = none
  n0 : k.n₀ ≤ σ.length

/-- what may be changed -/
def Ft (k : Kx) (own φ : List Addr) (b : Addr) : Prop := b ∈ own ∨ ∃ i, k.mut i = true ∧ φ[i]? = some b
structure Stp (F : Addr → Prop) (φ : List Addr) (h : Heap) (φ' : List Addr) (h' : Heap) : Prop where
  pre : ∃ t, φ' = φ ++ t ∧ ∀ a ∈ t, h.get? a = none
  keep : ∀ b o, h.get? b = some o → ¬ F b → h'.get? b = some o
  live : ∀ b o, h.get? b = some o → ∃ o', h'.get? b = some o'
theorem Stp.refl {F : Addr → Prop} {φ : List Addr} {h : Heap} : Stp F φ h φ h := ⟨⟨[], by simp, fun _ h => nomatch h⟩, fun _ _ e _ => e, fun _ o e => ⟨o, e⟩⟩
theorem Stp.ext {F : Addr → Prop} {φ : List Addr} {h h' : Heap} (x : HExt h h') : Stp F φ h φ h' := ⟨⟨[], by simp, fun _ h => nomatch h⟩, fun b o e _ => x b o e, fun b o e => ⟨o, x b o e⟩⟩
theorem Ft.back {k : Kx} {own φ t : List Addr} {b : Addr} {h : Heap} {o : Obj} (hb : h.get? b = some o) (ht : ∀ a ∈ t, h.get? a = none) (x : Ft k own (φ ++ t) b) : Ft k own φ b := by
  rcases x with x | ⟨i, hi, e⟩
  · exact .inl x
  · by_cases q : i < φ.length
    · exact .inr ⟨i, hi, by rw [List.getElem?_append_left q] at e; exact e⟩
    · rw [List.getElem?_append_right (by omega)] at e
      have := ht b (List.mem_of_getElem? e)
      rw [hb] at this
      cases this
theorem Stp.trans {k : Kx} {own φ φ₁ φ₂ : List Addr} {h h₁ h₂ : Heap} (x : Stp (Ft k own φ) φ h φ₁ h₁) (y : Stp (Ft k own φ₁) φ₁ h₁ φ₂ h₂) : Stp (Ft k own φ) φ h φ₂ h₂ := by
  obtain ⟨t, rfl, ht⟩ := x.pre
  obtain ⟨u, rfl, hu⟩ := y.pre
  refine ⟨⟨t ++ u, by simp, fun a ha => ?_⟩, fun b o e hn => ?_, fun b o e => ?_⟩
  · rcases List.mem_append.mp ha with ha | ha
    · exact ht a ha
    · cases q : h.get? a with
      | none => rfl
      | some o =>
        obtain ⟨o', e'⟩ := x.live a o q
        rw [hu a ha] at e'
        cases e'
  · exact y.keep b o (x.keep b o e hn) fun q => hn (q.back e ht)
  · obtain ⟨o', e'⟩ := x.live b o e
    exact y.live b o' e'

section
variable {hB : Heap} {C : Addr} {env : Env} {nm : List (Str × NameKind)} {own : List Addr} {k : Kx} {φ : List Addr} {ρ : Lo} {σ : Hp} {h h' : Heap}
theorem Stt.ext (S : Stt hB C env nm own k φ ρ σ h) (x : HExt h h') : Stt hB C env nm own k φ ρ σ h' where
  names := S.names
  ocel := S.ocel
  kind := S.kind
  glob := S.glob
  blt := S.blt
  ndn := S.ndn
  locl := S.locl
  loc := by
    obtain ⟨m, ⟨o, es, ep, a, b, c⟩, r⟩ := S.loc
    exact ⟨m, ⟨o, es, ep, x _ _ a, b, c⟩, r⟩
  cel := fun i y kd e q => by
    obtain ⟨c, o, a, ⟨o', b, b'⟩, r⟩ := S.cel i y kd e q
    exact ⟨c, o, a, ⟨o', x _ _ b, b'⟩, r⟩
  cinj := S.cinj
  cnm := S.cnm
  len := S.len
  obj := fun i mo e => by
    obtain ⟨a, o, b, c, d⟩ := S.obj i mo e
    exact ⟨a, o, b, x _ _ c, d⟩
  nd := S.nd
  base := fun b o e => x _ _ (S.base b o e)
  hown := S.hown
  olt := fun b hb => by obtain ⟨o, e⟩ := S.olt b hb; exact ⟨o, x _ _ e⟩
  hphi := S.hphi
  n0 := S.n0
theorem Stt.plt (S : Stt hB C env nm own k φ ρ σ h) {i : Nat} {a : Addr} (e : φ[i]? = some a) : ∃ o, h.get? a = some o := by
  have hi := (List.getElem?_eq_some_iff.mp e).1
  rw [S.len] at hi
  obtain ⟨a', o, e', ho, _⟩ := S.obj i σ[i] (by simp [hi])
  rw [e] at e'
  cases e'
  exact ⟨o, ho⟩
/-- a new object that the store names -/
theorem Stt.new (S : Stt hB C env nm own k φ ρ σ h) (x : HExt h h') {a : Addr} (ha : h.get? a = none) {o : Obj} {mo : MO} (ho : h'.get? a = some o) (r : OR C φ o mo) :
    Stt hB C env nm own k (φ ++ [a]) ρ (σ ++ [mo]) h' := by
  have S' := S.ext x
  have fresh : a ∉ own ++ φ := fun q => by
    rcases List.mem_append.mp q with q | q
    · obtain ⟨o, e⟩ := S.olt _ q; rw [ha] at e; cases e
    · obtain ⟨i, e⟩ := List.getElem?_of_mem q
      obtain ⟨o, e⟩ := S.plt e; rw [ha] at e; cases e
  exact {
    names := S.names, ocel := S.ocel, kind := S.kind, glob := S.glob, blt := S.blt, ndn := S.ndn, locl := S.locl, cinj := S.cinj, cnm := S.cnm, base := S'.base, hown := S.hown, olt := S'.olt
    loc := by
      obtain ⟨m, a, r⟩ := S'.loc
      exact ⟨m, a, fun i x mv e q => by obtain ⟨v, e', w⟩ := r i x mv e q; exact ⟨v, e', w.mono⟩⟩
    cel := fun i y kd e q => by
      obtain ⟨c, o, a, b, r⟩ := S'.cel i y kd e q
      exact ⟨c, o, a, b, fun mv q => by obtain ⟨v, e', w⟩ := r mv q; exact ⟨v, e', w.mono⟩⟩
    len := by simp [S.len]
    obj := fun i m e => by
      by_cases q : i < σ.length
      · rw [List.getElem?_append_left q] at e
        obtain ⟨a, o', b, c, d⟩ := S'.obj i m e
        exact ⟨a, o', by rw [List.getElem?_append_left (by rw [S.len]; exact q)]; exact b, c, d.mono⟩
      · rw [List.getElem?_append_right (by omega)] at e
        have hi : i - σ.length = 0 := by
          cases w : i - σ.length with
          | zero => rfl
          | succ j => rw [w] at e; simp at e
        rw [hi] at e
        simp at e
        subst e
        refine ⟨_, o, ?_, ho, r.mono⟩
        rw [List.getElem?_append_right (by rw [S.len]; omega), S.len, hi]
        rfl
    nd := by
      rw [← List.append_assoc]
      exact List.nodup_append.mpr ⟨S.nd, by simp, fun c hc b hb e => by simp at hb; rw [hb] at e; exact fresh (e ▸ hc)⟩
    hphi := fun i c hi e => by
      by_cases q : i < φ.length
      · rw [List.getElem?_append_left q] at e
        exact S.hphi i c hi e
      · rw [List.getElem?_append_right (by omega)] at e
        have : c ∈ [a] := List.mem_of_getElem? e
        simp at this
        rw [this]
        cases w : hB.get? a with
        | none => rfl
        | some o => rw [S.base a o w] at ha; cases ha
    n0 := by have := S.n0; simp; omega }
theorem Stp.new {F : Addr → Prop} (x : HExt h h') {a : Addr} (ha : h.get? a = none) : Stp F φ h (φ ++ [a]) h' :=
  ⟨⟨_, rfl, fun c hc => by simp at hc; rw [hc]; exact ha⟩, fun b o e _ => x b o e, fun b o e => ⟨o, x b o e⟩⟩
end

/-! ## the judgements -/
section
variable (prog : Program) (w : World) (hB : Heap) (C : Addr)
structure AOK (n : Nat) (A : Around) : Prop where
  handled : A.handled = none
  depth : A.depth + n ≤ 900
  units : A.units + 10 * n ≤ 9000
/-- what a value's end asks -/
def Gv (hB : Heap) (C : Addr) (env : Env) (nm : List (Str × NameKind)) (own : List Addr) (k : Kx) (φ : List Addr) (ρ : Lo) (σ' : Hp) (mv : MV) (s : Shared) (Q : Value → Shared → Prop) : Prop :=
  ∀ v φ' h' tk, Stp (Ft k own φ) φ s.heap φ' h' → Stt hB C env nm own k φ' ρ σ' h' → VR φ' v mv → Q v { s with heap := h', toks := tk }
/-- the Python expression e is worked out by c -/
def SE (n : Nat) (nm : List (Str × NameKind)) (e : Expr) (c : CE) : Prop :=
  ∀ (A : Around) (env : Env) (own : List Addr) (k : Kx) (φ : List Addr) (ρ : Lo) (σ : Hp) (s : Shared) (mv : MV) (σ' : Hp),
    AOK n A → Stt hB C env nm own k φ ρ σ s.heap → c k ρ σ = some (mv, σ') →
    ∀ (Q : Value → Shared → Prop) (E : Value → Shared → Prop), Gv hB C env nm own k φ ρ σ' mv s Q → wpAny (model prog w) A (eval e env) Q E s
end
end Mine
end

section
namespace Mine
open PySem PyProof.Rows

section
variable {prog : Program} {w : World} {hB : Heap} {C : Addr} {n : Nat} {nm : List (Str × NameKind)}
section
variable {env : Env} {own : List Addr} {k : Kx} {φ φ₁ : List Addr} {ρ : Lo} {σ σ' : Hp} {mv : MV} {s : Shared} {Q : Value → Shared → Prop}
theorem Gv.from {h₁ : Heap} {tk : Nat} (G : Gv hB C env nm own k φ ρ σ' mv s Q) (x : Stp (Ft k own φ) φ s.heap φ₁ h₁) : Gv hB C env nm own k φ₁ ρ σ' mv { s with heap := h₁, toks := tk } Q :=
  fun v φ' h' tk y z r => G v φ' h' tk (x.trans y) z r
theorem Gv.here {v : Value} {tk : Nat} (G : Gv hB C env nm own k φ ρ σ mv s Q) (S : Stt hB C env nm own k φ ρ σ s.heap) (r : VR φ v mv) : Q v { s with toks := tk } :=
  G v φ s.heap tk .refl S r
/-- a new object of the store as the answer -/
theorem Gv.made {o : Obj} {mo : MO} {tk : Nat} (S : Stt hB C env nm own k φ ρ σ s.heap) (G : Gv hB C env nm own k φ ρ (σ ++ [mo]) (.ref σ.length) s Q) (r : OR C φ o mo) (hf : o.isFreed = false) : Q (.ref s.heap.objs.size) { s with heap := s.heap.push o, toks := tk } := by
  have x : HExt s.heap (s.heap.push o) := fun b o' e => Heap.get?_push_of_some _ e
  have hs : s.heap.get? s.heap.objs.size = none := by
    cases q : s.heap.get? s.heap.objs.size with
    | none => rfl
    | some o => exact absurd (Heap.lt_size q) (Nat.lt_irrefl _)
  refine G _ _ _ tk (Stp.new x hs) (S.new x hs (Heap.get?_push_size _ hf) r) ⟨_, ?_, rfl⟩
  rw [← S.len]; simp
end
theorem VR.later {φ φ' : List Addr} {F : Addr → Prop} {h h' : Heap} {v : Value} {m : MV} (r : VR φ v m) (x : Stp F φ h φ' h') : VR φ' v m := by
  obtain ⟨t, rfl, _⟩ := x.pre
  exact r.mono

/-! ## constants and names -/
theorem SE_int {i : Int} {q : Nat} {p : Pos} : SE prog w hB C n nm (.Constant (.int i) q p) (cVal (.int i)) := by
  intro A env own k φ ρ σ s mv σ' _ S e Q E G
  cases e
  exact wpAny_Constant_int (G.here S ⟨_, rfl⟩)
theorem SE_bool {b : Bool} {q : Nat} {p : Pos} : SE prog w hB C n nm (.Constant (.bool b) q p) (cVal (.bool b)) := by
  intro A env own k φ ρ σ s mv σ' _ S e Q E G
  cases e
  exact wpAny_Constant_bool (G _ φ s.heap s.toks .refl S rfl)
theorem SE_str {x : Str} {l : List Nat} {q : Nat} {p : Pos} (hx : x = ⟨l.toArray⟩) : SE prog w hB C n nm (.Constant (.str x) q p) (cVal (.str l)) := by
  intro A env own k φ ρ σ s mv σ' _ S e Q E G
  cases e
  subst hx
  exact wpAny_Constant_str (G.here S ⟨_, rfl⟩)
theorem SE_byt {q : Nat} {p : Pos} : SE prog w hB C n nm (.Constant (.bytes []) q p) (cVal (.bytes [])) := by
  intro A env own k φ ρ σ s mv σ' _ S e Q E G
  cases e
  refine wpAny_eval_const rfl fun v tk hv => ?_
  obtain ⟨t, rfl⟩ := hv
  exact G.here S ⟨(fun _ h => nomatch h), _, rfl⟩
theorem lookup_at {nm : List (Str × NameKind)} (hn : (nm.map (·.1)).Nodup) {i : Nat} {x : Str} {kd : NameKind} (e : nm[i]? = some (x, kd)) : nm.lookup x = some kd := by
  induction nm generalizing i with
  | nil => simp at e
  | cons p nm ih =>
    obtain ⟨y, kd'⟩ := p
    rw [List.map_cons, List.nodup_cons] at hn
    cases i with
    | zero => simp at e; obtain ⟨rfl, rfl⟩ := e; simp [List.lookup]
    | succ i =>
      have e' : nm[i]? = some (x, kd) := by simpa using e
      have hne : (x == y) = false := by
        rw [beq_eq_false_iff_ne]
        intro q
        subst q
        exact hn.1 (List.mem_map.mpr ⟨_, List.mem_of_getElem? e', rfl⟩)
      rw [List.lookup_cons, hne]
      exact ih hn.2 e'
theorem SE_loc {i : Nat} {x : Str} {kd : NameKind} {p : Pos} (e : nm[i]? = some (x, kd)) (hk : kd = .local ∨ kd = .cell ∨ kd = .free) (hd : (x == ("__debug__" : Str)) = false) (hc : (x == ("__classdict__" : Str)) = false) :
    SE prog w hB C n nm (.Name x p) (cLoc i) := by
  intro A env own k φ ρ σ s mv σ' _ S ev Q E G
  obtain ⟨v, hv, e'⟩ := bd1_some.mp ev
  cases e'
  refine wpAny_Name ?_ hd
  have hkd := S.names i x kd e
  rcases hk with rfl | rfl | rfl
  · obtain ⟨m, hns, r⟩ := S.loc
    obtain ⟨u, hu, rv⟩ := r i x _ e hv
    exact wpAny_loadName_local S.kind (hkd.resolve_right fun q => nomatch q.1) hns hu (G _ φ s.heap s.toks .refl S rv)
  · obtain ⟨c, o, hl, hcell, r⟩ := S.cel i x _ e (.inl rfl)
    obtain ⟨u, rfl, rv⟩ := r _ hv
    exact wpAny_loadName_cell S.kind (hkd.resolve_right fun q => nomatch q.1) hl hcell (G _ φ s.heap s.toks .refl S rv)
  · obtain ⟨c, o, hl, hcell, r⟩ := S.cel i x _ e (.inr rfl)
    obtain ⟨u, rfl, rv⟩ := r _ hv
    rcases hkd with hkd | ⟨_, hkd⟩
    · exact wpAny_loadName_free S.kind hkd hl hcell (G _ φ s.heap s.toks .refl S rv) hc
    · exact wpAny_loadName_cell S.kind hkd hl hcell (G _ φ s.heap s.toks .refl S rv)

/-! ## binary operators -/
def OpOK (prog : Program) (w : World) (hB : Heap) (C : Addr) (n : Nat) (op : Operator) (f : Hp → MV → MV → RE) : Prop :=
  ∀ (A : Around) (env : Env) (nm : List (Str × NameKind)) (own : List Addr) (k : Kx) (φ : List Addr) (ρ : Lo) (σ : Hp) (s : Shared) (a b mv : MV) (va vb : Value) (σ' : Hp),
    AOK n A → Stt hB C env nm own k φ ρ σ s.heap → VR φ va a → VR φ vb b → f σ a b = some (mv, σ') → ∀ Q E, Gv hB C env nm own k φ ρ σ' mv s Q → wpAny (model prog w) A (binaryOp op va vb) Q E s
theorem SE_bin {l x : Expr} {op : Operator} {p : Pos} {cl cx : CE} {f : Hp → MV → MV → RE} (hf : OpOK prog w hB C n op f) (hl : SE prog w hB C n nm l cl) (hx : SE prog w hB C n nm x cx) :
    SE prog w hB C n nm (.BinOp l op x p) (cBin f cl cx) := by
  intro A env own k φ ρ σ s mv σ' hA S e Q E G
  obtain ⟨a, σ₁, e1, e⟩ := bnd_some.mp e
  obtain ⟨b, σ₂, e2, e⟩ := bnd_some.mp e
  refine wpAny_BinOp (hl A env own k φ ρ σ s a σ₁ hA S e1 _ E fun va φ₁ h₁ tk₁ x₁ S₁ r₁ => ?_)
  refine hx A env own k φ₁ ρ σ₁ _ b σ₂ hA S₁ e2 _ E fun vb φ₂ h₂ tk₂ x₂ S₂ r₂ => ?_
  exact hf A env nm own k φ₂ ρ σ₂ _ a b mv va vb σ' hA S₂ (r₁.later x₂) r₂ e Q E ((G.from x₁).from x₂)
theorem retI_some {σ σ' : Hp} {i : Int} {mv : MV} (e : retI σ i = some (mv, σ')) : mv = .int i ∧ σ' = σ := by
  unfold retI at e; rw [frI_eq] at e; cases e; exact ⟨rfl, rfl⟩
theorem retN_some {σ σ' : Hp} {i : Nat} {mv : MV} (e : retN σ i = some (mv, σ')) : mv = .int i ∧ σ' = σ := by
  unfold retN at e; rw [frN_eq] at e; cases e; exact ⟨rfl, rfl⟩
theorem new_some {σ σ' : Hp} {o : MO} {mv : MV} (e : new σ o = some (mv, σ')) : mv = .ref σ.length ∧ σ' = σ ++ [o] := by
  unfold new at e; rw [frN_eq, frS_eq, len_eq, app_eq] at e; cases e; exact ⟨rfl, rfl⟩
theorem cnd_some {α : Type} {b : Bool} {x : Option α} {y : α} : cnd b x none = some y ↔ b = true ∧ x = some y := by cases b <;> simp [cnd]
theorem Op_sub : OpOK prog w hB C n .Sub subV := by
  intro A env nm own k φ ρ σ s a b mv va vb σ' hA S ra rb e Q E G
  unfold subV at e
  split at e <;> try (cases e; done)
  obtain ⟨rfl, rfl⟩ := retI_some e
  obtain ⟨t, rfl⟩ := ra
  obtain ⟨u, rfl⟩ := rb
  exact sub_int (G.here S ⟨_, rfl⟩)
theorem Op_mod : OpOK prog w hB C n .Mod modV := by
  intro A env nm own k φ ρ σ s a b mv va vb σ' hA S ra rb e Q E G
  unfold modV at e
  split at e <;> try (cases e; done)
  obtain ⟨hy, e⟩ := cnd_some.mp e
  obtain ⟨rfl, rfl⟩ := retI_some e
  obtain ⟨t, rfl⟩ := ra
  obtain ⟨u, rfl⟩ := rb
  have := (W.Z.ltB_iff _ _).mp hy
  exact mod_int' (by omega) (G.here S ⟨_, rfl⟩)
theorem small_lt {x : Int} (h : small x = true) : x.natAbs < 1073741824 := by
  unfold small at h
  exact W.Z.blt_iff.mp h
theorem Op_div : OpOK prog w hB C n .FloorDiv divV := by
  intro A env nm own k φ ρ σ s a b mv va vb σ' hA S ra rb e Q E G
  unfold divV at e
  split at e <;> try (cases e; done)
  obtain ⟨hy, e⟩ := cnd_some.mp e
  obtain ⟨hs, e⟩ := cnd_some.mp e
  obtain ⟨rfl, rfl⟩ := retI_some e
  obtain ⟨t, rfl⟩ := ra
  obtain ⟨u, rfl⟩ := rb
  have := (W.Z.ltB_iff _ _).mp hy
  exact floordiv_int (by omega) (G.here S ⟨_, rfl⟩) (.inl (PyProof.noPylong_small (small_lt hs)))
theorem toArray_app {a b : List Nat} : (⟨(a ++ b).toArray⟩ : Str) = (⟨a.toArray⟩ : Str) ++ (⟨b.toArray⟩ : Str) := by
  refine Str.ext' ?_
  rw [Str.cps_append]
  simp
theorem SeqList {h : Heap} {a : Addr} {vs : List Value} {m : Nat} (e : h.get? a = some { cls := .type "list", data := .seq vs.toArray m }) : h.IsList a vs.toArray := ⟨_, e, rfl, m, rfl⟩
theorem Stt.list {env : Env} {own : List Addr} {k : Kx} {φ : List Addr} {ρ : Lo} {σ : Hp} {h : Heap} (S : Stt hB C env nm own k φ ρ σ h) {i : Nat} {xs : List MV} {v : Value} (e : getO σ i = some (.list xs)) (r : VR φ v (.ref i)) :
    ∃ a vs m, φ[i]? = some a ∧ v = .ref a ∧ h.get? a = some { cls := .type "list", data := .seq vs.toArray m } ∧ VRs φ vs xs ∧ vs.length ≤ 1000000 := by
  unfold getO at e
  rw [nth_eq] at e
  obtain ⟨a, o, e1, e2, vs, m, rfl, r', l⟩ := S.obj i _ e
  obtain ⟨a', e', rfl⟩ := r
  rw [e1] at e'
  cases e'
  exact ⟨a, vs, m, e1, rfl, e2, r', l⟩
theorem Stt.tuple {env : Env} {own : List Addr} {k : Kx} {φ : List Addr} {ρ : Lo} {σ : Hp} {h : Heap} (S : Stt hB C env nm own k φ ρ σ h) {i : Nat} {xs : List MV} {v : Value} (e : getO σ i = some (.tuple xs)) (r : VR φ v (.ref i)) :
    ∃ a vs, φ[i]? = some a ∧ v = .ref a ∧ h.get? a = some { cls := .type "tuple", data := .seq vs.toArray } ∧ VRs φ vs xs := by
  unfold getO at e
  rw [nth_eq] at e
  obtain ⟨a, o, e1, e2, vs, rfl, r'⟩ := S.obj i _ e
  obtain ⟨a', e', rfl⟩ := r
  rw [e1] at e'
  cases e'
  exact ⟨a, vs, e1, rfl, e2, r'⟩
theorem Op_mulI {A : Around} {x y : Int} {t u : Tok} {s : Shared} {Q : Value → Shared → Prop} {E : Value → Shared → Prop} (hs : small x = true) (h : Q (.int (x * y) s.toks) { s with toks := s.toks + 1 }) :
    wpAny (model prog w) A (binaryOp .Mult (.int x t) (.int y u)) Q E s := by
  have := small_lt hs
  refine mul_int h ?_
  unfold IntMulOk
  have hb : Builtin.Int.intBits x ≤ 64 := intBits_le_64 (by omega) (by omega)
  have : decide (Builtin.Int.intBits x > shortFactorBits) = false := decide_eq_false (by show ¬ _ > 64; omega)
  rw [this]
  simp
theorem Op_pow : OpOK prog w hB C n .Pow powV := by
  intro A env nm own k φ ρ σ s a b mv va vb σ' hA S ra rb e Q E G
  unfold powV at e
  split at e <;> try (cases e; done)
  rename_i m q
  obtain ⟨h1, e⟩ := cnd_some.mp e
  obtain ⟨h2, e⟩ := cnd_some.mp e
  obtain ⟨rfl, rfl⟩ := retN_some e
  obtain ⟨t, rfl⟩ := ra
  obtain ⟨u, rfl⟩ := rb
  have h1 := Nat.le_of_ble_eq_true h1
  have h2 := Nat.le_of_ble_eq_true h2
  have hb : Builtin.Int.intBits (Int.ofNat m) ≤ 64 := intBits_le_64 (by show -(2^64 : Int) < (m : Int); omega) (by show (m : Int) < 2 ^ 64; omega)
  refine pow_int (by show (0 : Int) ≤ (q : Int); omega) ?_ (G.here S ⟨s.toks, ?_⟩)
  · have : (Builtin.Int.intBits (Int.ofNat m) : Int) * (q : Int) ≤ 64 * 30 := by
      have := Nat.mul_le_mul hb h1
      exact_mod_cast this
    show (Builtin.Int.intBits (Int.ofNat m) : Int) * (q : Int) ≤ 2 ^ 27
    omega
  · show Value.int ((m : Int) ^ q) _ = Value.int ((m ^ q : Nat) : Int) _
    rw [Int.natCast_pow]
end
end Mine
end

section
namespace Mine
open PySem PyProof.Rows

section
variable {prog : Program} {w : World} {hB : Heap} {C : Addr} {n : Nat} {nm : List (Str × NameKind)}
theorem HExt.push {h : Heap} {o : Obj} : HExt h (h.push o) := fun _ _ e => Heap.get?_push_of_some _ e
theorem Op_add : OpOK prog w hB C n .Add addV := by
  intro A env nm own k φ ρ σ s a b mv va vb σ' hA S ra rb e Q E G
  unfold addV at e
  split at e <;> try (cases e; done)
  · obtain ⟨rfl, rfl⟩ := retI_some e
    obtain ⟨t, rfl⟩ := ra
    obtain ⟨u, rfl⟩ := rb
    exact PyProof.Rows.add_int (G.here S ⟨_, rfl⟩)
  · rename_i x y
    rw [frS_eq, app_eq] at e
    obtain ⟨hl, e⟩ := chk_some.mp e
    cases e
    obtain ⟨t, rfl⟩ := ra
    obtain ⟨u, rfl⟩ := rb
    refine PyProof.Rows.add_str (fun t' tk => ?_) ?_
    · rw [← toArray_app]
      exact G.here S ⟨_, rfl⟩
    · show x.toArray.size + y.toArray.size ≤ sizeLine
      simp at hl ⊢
      show _ ≤ 2 ^ 24
      omega
  · rename_i x y
    rw [frS_eq, app_eq] at e
    obtain ⟨hl, e⟩ := chk_some.mp e
    cases e
    obtain ⟨hx, t, rfl⟩ := ra
    obtain ⟨hy, u, rfl⟩ := rb
    simp at hl
    refine PySem.W.KBy.add_bytes ?_ fun t' tk => ?_
    · simp; omega
    · refine G.here S ⟨fun c hc => ?_, t', ?_⟩
      · rcases List.mem_append.mp hc with h | h
        · exact hx c h
        · exact hy c h
      · simp
  · rename_i i j
    split at e <;> try (cases e; done)
    rename_i x y ex ey
    rw [frS_eq, app_eq] at e
    obtain ⟨hl, e⟩ := chk_some.mp e
    obtain ⟨rfl, rfl⟩ := new_some e
    obtain ⟨a, vs, m, e1, rfl, e2, r, l⟩ := S.list ex ra
    obtain ⟨b, us, m', e1', rfl, e2', r', l'⟩ := S.list ey rb
    have hl1 := r.length
    have hl2 := r'.length
    simp at hl
    refine PySem.P.add_list (items := vs.toArray) (items2 := us.toArray) e2 e2' ?_ ?_
    · exact Gv.made S G ⟨vs ++ us, 0, by simp, r.append r', by simp; omega⟩ rfl
    · simp; show _ ≤ 2 ^ 24; omega
theorem rep_length {α : Type} (m : Nat) (x : List α) : (rep m x).length = m * x.length := by
  induction m with
  | zero => show ([] : List α).length = _; simp
  | succ m ih => show (app x (rep m x)).length = _; rw [app_eq, List.length_append, ih, Nat.succ_mul]; omega
theorem foldl_app {α : Type} (m : Nat) (x : Array α) (a : Array α) : (List.replicate m x).foldl (· ++ ·) a = a ++ (rep m x.toList).toArray := by
  induction m generalizing a with
  | zero => show a = a ++ ([] : List α).toArray; simp
  | succ m ih =>
    rw [List.replicate_succ, List.foldl_cons, ih]
    show _ = a ++ (app x.toList (rep m x.toList)).toArray
    rw [app_eq]
    apply Array.ext'
    simp
theorem rep_one {α : Type} (x : List α) : rep 1 x = x := by show app x [] = x; rw [app_eq]; simp
theorem txt_mul (x : List Nat) (m : Int) : Txt.mul ⟨x.toArray⟩ m = ⟨(rep m.toNat x).toArray⟩ := by
  unfold Txt.mul
  split
  · rename_i h
    have : m.toNat = 0 := by omega
    rw [this]
    rfl
  · rename_i h
    split
    · rename_i h'
      rw [Bool.or_eq_true] at h'
      rcases h' with h' | h'
      · have : m = 1 := by simpa using h'
        subst this
        show _ = (⟨(rep 1 x).toArray⟩ : Str)
        rw [rep_one]
      · have h0 : x.length = 0 := by
          have : (⟨x.toArray⟩ : Str).length = 0 := by simpa using h'
          simpa [Str.length] using this
        have hx : x = [] := List.length_eq_zero_iff.mp h0
        subst hx
        have : (rep m.toNat ([] : List Nat)) = [] := List.length_eq_zero_iff.mp (by rw [rep_length]; simp)
        rw [this]
    · refine congrArg Str.mk ?_
      have := foldl_app m.toNat x.toArray #[]
      rw [this]
      simp
theorem mul_listR {A : Around} {E : Value → Shared → Prop} {s : Shared} {l : Addr} {items : Array Value} {k : Nat} {x : Int} {u : Tok} {Q : Value → Shared → Prop}
    (hl : s.heap.get? l = some { cls := .type "list", dict := none, data := .seq items k, slots := #[] })
    (hlo : -(2 ^ 63 : Int) ≤ x) (hhi : x < 2 ^ 63) (hsz : items.size * x.toNat ≤ 2 ^ 24)
    (h : Q (.ref s.heap.objs.size) { s with heap := s.heap.push { cls := .type "list", data := .seq (List.foldl (fun x1 x2 => x1 ++ x2) #[] (List.replicate (if items.isEmpty = true then 0 else x.toNat) items)) } }) :
    wpAny (model prog w) A (binaryOp .Mult (.ref l) (.int x u)) Q E s :=
  wpAny_binaryOp_repeat_ref (T := "list") (U := "int") (by decide) ⟨_, hl, rfl⟩ (fun s' => typeIs_int s' x u) noFill_list_mul F.fills_int_mul F.slot_int_rmul repeat_list F.slot_int_index.lookup
    (call_meets F.slot_int_rmul (typeIs_int s x u) F.entry_int_rmul (F.args_int_rmul_2 _ _) (int___rmul___int_list x u l items k)
      ⟨hl, rfl, ⟨_, hl, rfl⟩, call_meets F.slot_list_mul ⟨_, hl, rfl⟩ F.entry_list_mul (F.args_list_mul_2 _ _)
        (AutoListH.list___mul___list_int_3 l items k x u (by simp [Builtin.List.listFitsIndex]; omega) (by omega) (by simp [Builtin.List.listTooLong, sizeLine]; omega))
        ⟨hl, h⟩⟩)
theorem VRs.rep {φ : List Addr} {vs : List Value} {ms : List MV} (r : VRs φ vs ms) (m : Nat) : VRs φ (rep m vs) (rep m ms) := by
  induction m with
  | zero => exact trivial
  | succ m ih =>
    show VRs φ (app vs (Mine.rep m vs)) (app ms (Mine.rep m ms))
    rw [app_eq, app_eq]
    exact r.append ih
theorem Op_mul : OpOK prog w hB C n .Mult mulV := by
  intro A env nm own k φ ρ σ s a b mv va vb σ' hA S ra rb e Q E G
  unfold mulV at e
  split at e <;> try (cases e; done)
  · obtain ⟨hs, e⟩ := cnd_some.mp e
    obtain ⟨rfl, rfl⟩ := retI_some e
    obtain ⟨t, rfl⟩ := ra
    obtain ⟨u, rfl⟩ := rb
    exact Op_mulI hs (G.here S ⟨_, rfl⟩)
  · rename_i x m
    rw [frS_eq] at e
    obtain ⟨hm, e⟩ := cnd_some.mp e
    obtain ⟨hl, e⟩ := chk_some.mp e
    cases e
    obtain ⟨t, rfl⟩ := ra
    obtain ⟨u, rfl⟩ := rb
    have hm := small_lt hm
    rw [rep_length] at hl
    refine SB.mul ⟨?_, fun h1 h2 => ?_, fun h1 h2 => ?_⟩ fun t' tk => ?_
    · rw [Bool.or_eq_false_iff]; exact ⟨decide_eq_false (by omega), decide_eq_false (by omega)⟩
    · have hx : ((⟨x.toArray⟩ : Str).length : Int) = x.length := by simp [Str.length]
      rw [hx]
      intro hgt
      have hpos : 0 < m := by omega
      have h3 : (2 ^ 63 - 1 : Int) < x.length * m := (Int.ediv_lt_iff_lt_mul hpos).mp hgt
      have h4 : (x.length : Int) * m ≤ 1000000 := by
        have : ((m.toNat * x.length : Nat) : Int) ≤ 1000000 := by omega
        rw [Int.natCast_mul, Int.toNat_of_nonneg (by omega), Int.mul_comm] at this
        exact this
      omega
    · have hx : (⟨x.toArray⟩ : Str).length = x.length := by simp [Str.length]
      rw [hx]
      show decide _ = false
      exact decide_eq_false (by show ¬ _ > 2 ^ 24; rw [Nat.mul_comm]; omega)
    · rw [txt_mul]
      exact G.here S ⟨_, rfl⟩
  · rename_i i m
    split at e <;> try (cases e; done)
    rename_i x ex
    rw [frS_eq] at e
    obtain ⟨hm, e⟩ := cnd_some.mp e
    obtain ⟨hl, e⟩ := chk_some.mp e
    obtain ⟨rfl, rfl⟩ := new_some e
    obtain ⟨a, vs, q, e1, rfl, e2, r, l⟩ := S.list ex ra
    obtain ⟨u, rfl⟩ := rb
    have hm := small_lt hm
    rw [rep_length] at hl
    have hlen := r.length
    have hlen' : vs.length = 1 := hlen
    refine mul_listR e2 (by omega) (by omega) (by rw [List.size_toArray, hlen']; have hl : m.toNat * 1 ≤ 1000000 := hl; omega) ?_
    have he : vs.toArray.isEmpty = false := by
      cases vs with
      | nil => simp at hlen'
      | cons v vs => simp
    rw [he]
    simp only [Bool.false_eq_true, if_false]
    rw [foldl_app]
    refine Gv.made S G ⟨rep m.toNat vs, 0, by rw [Array.empty_append], r.rep _, ?_⟩ rfl
    rw [rep_length, hlen']
    exact hl
end
end Mine
end

section
namespace Mine
open PySem PyProof.Rows

section
variable {prog : Program} {w : World} {hB : Heap} {C : Addr} {n : Nat} {nm : List (Str × NameKind)}
/-- what a test's end asks -/
def Gt (hB : Heap) (C : Addr) (env : Env) (nm : List (Str × NameKind)) (own : List Addr) (k : Kx) (φ : List Addr) (ρ : Lo) (σ' : Hp) (b : Bool) (s : Shared) (Q : Bool → Shared → Prop) : Prop :=
  ∀ φ' h' tk, Stp (Ft k own φ) φ s.heap φ' h' → Stt hB C env nm own k φ' ρ σ' h' → Q b { s with heap := h', toks := tk }
theorem Gt.from {env : Env} {own : List Addr} {k : Kx} {φ φ₁ : List Addr} {ρ : Lo} {σ' : Hp} {b : Bool} {s : Shared} {Q : Bool → Shared → Prop} {h₁ : Heap} {tk : Nat} (G : Gt hB C env nm own k φ ρ σ' b s Q) (x : Stp (Ft k own φ) φ s.heap φ₁ h₁) : Gt hB C env nm own k φ₁ ρ σ' b { s with heap := h₁, toks := tk } Q :=
  fun φ' h' tk y z => G φ' h' tk (x.trans y) z
/-- the Python expression e, asked for its truth, is worked out by c -/
def ST (prog : Program) (w : World) (hB : Heap) (C : Addr) (n : Nat) (nm : List (Str × NameKind)) (e : Expr) (c : CT) : Prop :=
  ∀ (A : Around) (env : Env) (own : List Addr) (k : Kx) (φ : List Addr) (ρ : Lo) (σ : Hp) (s : Shared) (b : Bool) (σ' : Hp),
    AOK n A → Stt hB C env nm own k φ ρ σ s.heap → c k ρ σ = some (b, σ') →
    ∀ (Q : Bool → Shared → Prop) (E : Value → Shared → Prop), Gt hB C env nm own k φ ρ σ' b s Q → wpAny (model prog w) A (isTrue e env (eval e env)) Q E s

/-! ## comparisons -/
def CmpOK (prog : Program) (w : World) (hB : Heap) (C : Addr) (n : Nat) (op : CmpOp) (f : Hp → MV → MV → Option Bool) : Prop :=
  ∀ (A : Around) (env : Env) (nm : List (Str × NameKind)) (own : List Addr) (k : Kx) (φ : List Addr) (ρ : Lo) (σ : Hp) (s : Shared) (a b : MV) (va vb : Value) (c : Bool),
    AOK n A → Stt hB C env nm own k φ ρ σ s.heap → VR φ va a → VR φ vb b → f σ a b = some c → ∀ Q E, Gv hB C env nm own k φ ρ σ (.bool c) s Q → wpAny (model prog w) A (compareOp op va vb) Q E s
theorem SE_cmp {l x : Expr} {op : CmpOp} {p : Pos} {cl cx : CE} {f : Hp → MV → MV → Option Bool} (hf : CmpOK prog w hB C n op f) (hl : SE prog w hB C n nm l cl) (hx : SE prog w hB C n nm x cx) (hm : behindInMarks op x = false) :
    SE prog w hB C n nm (.Compare l [op] [x] p) (cCmp f cl cx) := by
  intro A env own k φ ρ σ s mv σ' hA S e Q E G
  obtain ⟨a, σ₁, e1, e⟩ := bnd_some.mp e
  obtain ⟨b, σ₂, e2, e⟩ := bnd_some.mp e
  obtain ⟨c, e3, e⟩ := bd1_some.mp e
  rw [frP_eq] at e
  cases e
  refine wpAny_Compare1 (hl A env own k φ ρ σ s a σ₁ hA S e1 _ E fun va φ₁ h₁ tk₁ x₁ S₁ r₁ => ?_) hm
  refine hx A env own k φ₁ ρ σ₁ _ b _ hA S₁ e2 _ E fun vb φ₂ h₂ tk₂ x₂ S₂ r₂ => ?_
  exact hf A env nm own k φ₂ ρ _ _ a b va vb _ hA S₂ (r₁.later x₂) r₂ e3 Q E ((G.from x₁).from x₂)
theorem ST_cmp {l x : Expr} {op : CmpOp} {p : Pos} {cl cx : CE} {f : Hp → MV → MV → Option Bool} (hf : CmpOK prog w hB C n op f) (hl : SE prog w hB C n nm l cl) (hx : SE prog w hB C n nm x cx) (hm : behindInMarks op x = false) :
    ST prog w hB C n nm (.Compare l [op] [x] p) (tCmp f cl cx) := by
  intro A env own k φ ρ σ s d σ' hA S e Q E G
  obtain ⟨a, σ₁, e1, e⟩ := bnd_some.mp e
  obtain ⟨b, σ₂, e2, e⟩ := bnd_some.mp e
  obtain ⟨c, e3, e⟩ := bd1_some.mp e
  rw [frP_eq] at e
  cases e
  refine wpAny_isTrue_Compare1 (hl A env own k φ ρ σ s a σ₁ hA S e1 _ E fun va φ₁ h₁ tk₁ x₁ S₁ r₁ => ?_) hm
  refine hx A env own k φ₁ ρ σ₁ _ b _ hA S₁ e2 _ E fun vb φ₂ h₂ tk₂ x₂ S₂ r₂ => ?_
  refine hf A env nm own k φ₂ ρ _ _ a b va vb _ hA S₂ (r₁.later x₂) r₂ e3 _ E fun v φ₃ h₃ tk₃ x₃ S₃ r₃ => ?_
  cases r₃
  exact wpAny_truthy_bool (((G.from x₁).from x₂) φ₃ h₃ tk₃ x₃ S₃)
theorem ST_not {x : Expr} {p : Pos} {c : CT} (h : ST prog w hB C n nm x c) : ST prog w hB C n nm (.UnaryOp .Not x p) (tNot c) := by
  intro A env own k φ ρ σ s d σ' hA S e Q E G
  obtain ⟨b, σ₁, e1, e⟩ := bnd_some.mp e
  refine wpAny_isTrue_Not (h A env own k φ ρ σ s b σ₁ hA S e1 _ E fun φ₁ h₁ tk₁ x₁ S₁ => ?_)
  cases b <;> (cases e; exact G φ₁ h₁ tk₁ x₁ S₁)
theorem ST_val {x : Expr} {c : CE} (h : SE prog w hB C n nm x c) (he : ∀ env whole, isTrue x env whole = (do let v ← whole; standAt x.pos; holding [v] (truthy v))) : ST prog w hB C n nm x (tVal c) := by
  intro A env own k φ ρ σ s d σ' hA S e Q E G
  obtain ⟨v, σ₁, e1, e⟩ := bnd_some.mp e
  refine wpAny_isTrue_value (h A env own k φ ρ σ s v σ₁ hA S e1 _ E fun va φ₁ h₁ tk₁ x₁ S₁ r₁ => ?_) (he _ _)
  cases v <;> try (cases e; done)
  cases e
  cases r₁
  exact wpAny_truthy_bool (G φ₁ h₁ tk₁ x₁ S₁)
/-- several tests, joined -/
def STs (prog : Program) (w : World) (hB : Heap) (C : Addr) (n : Nat) (nm : List (Str × NameKind)) : List Expr → List CT → Prop
  | [], [] => True
  | e :: es, c :: cs => ST prog w hB C n nm e c ∧ STs prog w hB C n nm es cs
  | _, _ => False
theorem ST_and {es : List Expr} {p : Pos} {cs : List CT} (h : STs prog w hB C n nm es cs) : ST prog w hB C n nm (.BoolOp .And es p) (tAnd cs) := by
  intro A env own k φ ρ σ s d σ' hA S e Q E G
  refine wpAny_isTrue_BoolOp ?_
  induction es generalizing cs φ σ s with
  | nil =>
    cases cs with
    | nil => cases e; exact wpAny_allTrue_And_nil (G φ s.heap s.toks .refl S)
    | cons c cs => exact h.elim
  | cons x es ih =>
    cases cs with
    | nil => exact h.elim
    | cons c cs =>
      have e : bnd (c k ρ σ) (fun b σ => cnd b (tAnd cs k ρ σ) (some (false, σ))) = some (d, σ') := e
      obtain ⟨b, σ₁, e1, e⟩ := bnd_some.mp e
      refine wpAny_allTrue_And_cons (h.1 A env own k φ ρ σ s b σ₁ hA S e1 _ E fun φ₁ h₁ tk₁ x₁ S₁ => ?_)
      cases b with
      | true => exact ih h.2 _ _ _ S₁ e (G.from x₁)
      | false => cases e; exact G φ₁ h₁ tk₁ x₁ S₁
theorem ST_or {es : List Expr} {p : Pos} {cs : List CT} (h : STs prog w hB C n nm es cs) : ST prog w hB C n nm (.BoolOp .Or es p) (tOr cs) := by
  intro A env own k φ ρ σ s d σ' hA S e Q E G
  refine wpAny_isTrue_BoolOp ?_
  induction es generalizing cs φ σ s with
  | nil =>
    cases cs with
    | nil => cases e; exact wpAny_allTrue_Or_nil (G φ s.heap s.toks .refl S)
    | cons c cs => exact h.elim
  | cons x es ih =>
    cases cs with
    | nil => exact h.elim
    | cons c cs =>
      have e : bnd (c k ρ σ) (fun b σ => cnd b (some (true, σ)) (tOr cs k ρ σ)) = some (d, σ') := e
      obtain ⟨b, σ₁, e1, e⟩ := bnd_some.mp e
      refine wpAny_allTrue_Or_cons (h.1 A env own k φ ρ σ s b σ₁ hA S e1 _ E fun φ₁ h₁ tk₁ x₁ S₁ => ?_)
      cases b with
      | true => cases e; exact G φ₁ h₁ tk₁ x₁ S₁
      | false => exact ih h.2 _ _ _ S₁ e (G.from x₁)
theorem Cmp_lt : CmpOK prog w hB C n .Lt ltC := by
  intro A env nm own k φ ρ σ s a b va vb c hA S ra rb e Q E G
  unfold ltC at e
  split at e <;> try (cases e; done)
  cases e
  obtain ⟨t, rfl⟩ := ra
  obtain ⟨u, rfl⟩ := rb
  refine PyProof.Rows.lt_int (G _ φ s.heap s.toks .refl S (congrArg Value.bool ?_))
  exact Bool.eq_iff_iff.mpr (by rw [decide_eq_true_eq]; exact (W.Z.ltB_iff _ _).symm)
theorem Cmp_le : CmpOK prog w hB C n .LtE leC := by
  intro A env nm own k φ ρ σ s a b va vb c hA S ra rb e Q E G
  unfold leC at e
  split at e <;> try (cases e; done)
  cases e
  obtain ⟨t, rfl⟩ := ra
  obtain ⟨u, rfl⟩ := rb
  refine PyProof.Rows.le_int (G _ φ s.heap s.toks .refl S (congrArg Value.bool ?_))
  exact Bool.eq_iff_iff.mpr (by rw [decide_eq_true_eq]; exact (W.Z.leB_iff _ _).symm)
theorem Cmp_ge : CmpOK prog w hB C n .GtE geC := by
  intro A env nm own k φ ρ σ s a b va vb c hA S ra rb e Q E G
  unfold geC leC at e
  split at e <;> try (cases e; done)
  cases e
  obtain ⟨t, rfl⟩ := ra
  obtain ⟨u, rfl⟩ := rb
  refine PyProof.Rows.ge_int (G _ φ s.heap s.toks .refl S (congrArg Value.bool ?_))
  exact Bool.eq_iff_iff.mpr (by rw [decide_eq_true_eq]; exact (W.Z.leB_iff _ _).symm)
end
end Mine
end

section
namespace Mine
open PySem PyProof.Rows

/-! ## names stored -/
theorem setAt_length {α : Type} (l : List α) (i : Nat) (v : α) : (setAt l i v).length = l.length := by
  induction l generalizing i with
  | nil => rfl
  | cons a l ih => cases i with
    | zero => rfl
    | succ i => show (a :: setAt l i v).length = _; simp [ih]
theorem setAt_get {α : Type} (l : List α) (i j : Nat) (v : α) : (setAt l i v)[j]? = if i = j then (if i < l.length then some v else none) else l[j]? := by
  induction l generalizing i j with
  | nil => simp [setAt]
  | cons a l ih =>
    cases i with
    | zero => cases j <;> simp [setAt]
    | succ i =>
      cases j with
      | zero => simp [setAt]
      | succ j => show (a :: setAt l i v)[j + 1]? = _; simp [ih]
theorem getV_set {ρ : Lo} {i j : Nat} {v u : MV} (h : getV (setAt ρ i (some v)) j = some u) : (i = j ∧ u = v) ∨ (i ≠ j ∧ getV ρ j = some u) := by
  unfold getV at h ⊢
  rw [nth_eq] at h ⊢
  rw [setAt_get] at h
  split at h
  · rename_i e
    split at h
    · cases h; exact .inl ⟨e, rfl⟩
    · cases h
  · rename_i e; exact .inr ⟨e, h⟩
theorem name_inj {nm : List (Str × NameKind)} (hn : (nm.map (·.1)).Nodup) {i j : Nat} {x : Str} {kd kd' : NameKind} (e : nm[i]? = some (x, kd)) (e' : nm[j]? = some (x, kd')) : i = j := by
  have h1 : (nm.map (·.1))[i]? = some x := by rw [List.getElem?_map, e]; rfl
  have h2 : (nm.map (·.1))[j]? = some x := by rw [List.getElem?_map, e']; rfl
  have hi := (List.getElem?_eq_some_iff.mp h1).1
  exact (List.getElem?_inj hi hn).mp (h1.trans h2.symm)
theorem OR.data {C : Addr} {φ : List Addr} {o : Obj} {m : MO} (r : OR C φ o m) (v : Option Value) : o.data ≠ .cell v := by
  cases m with
  | list xs => obtain ⟨vs, n, rfl, _⟩ := r; intro e; cases e
  | tuple xs => obtain ⟨vs, rfl, _⟩ := r; intro e; cases e
  | range a b c => obtain ⟨t, u, v, rfl⟩ := r; intro e; cases e
  | barr b => obtain ⟨_, rfl⟩ := r; intro e; cases e
  | inst d => obtain ⟨a, _, rfl⟩ := r; intro e; cases e
  | dict as => obtain ⟨es, ep, d, _⟩ := r; intro e; rw [d] at e; cases e

section
variable {prog : Program} {w : World} {hB : Heap} {C : Addr} {n : Nat} {nm : List (Str × NameKind)} {env : Env} {own : List Addr} {k : Kx} {φ : List Addr} {ρ : Lo} {σ : Hp} {h h' : Heap}
theorem Stt.pne (S : Stt hB C env nm own k φ ρ σ h) {b : Addr} (hb : b ∈ own) {i : Nat} {a : Addr} (e : φ[i]? = some a) : a ≠ b := fun q => by
  have := (List.nodup_append.mp S.nd).2.2 b hb a (List.mem_of_getElem? e)
  exact this q.symm
theorem Stt.setLoc (S : Stt hB C env nm own k φ ρ σ h) {i : Nat} {x : Str} {v : Value} {mv : MV} {m : Str → Option Value} (e : nm[i]? = some (x, .local)) (r : VR φ v mv)
    (hm : ∀ (i : Nat) (x : Str) (mv : MV), nm[i]? = some (x, .local) → getV ρ i = some mv → ∃ v, m x = some v ∧ VR φ v mv)
    (hn : h.Ns env.locals m) (hns : h'.Ns env.locals fun y => if y = x then some v else m y) (hs : Heap.SameBut env.locals h h') : Stt hB C env nm own k φ (setAt ρ i (some mv)) σ h' where
  names := S.names
  ocel := S.ocel
  kind := S.kind
  glob := S.glob
  blt := S.blt
  ndn := S.ndn
  locl := S.locl
  loc := by
    refine ⟨_, hns, fun j y u e' q => ?_⟩
    rcases getV_set q with ⟨rfl, rfl⟩ | ⟨hne, q⟩
    · rw [e] at e'; cases e'; exact ⟨v, by simp, r⟩
    · obtain ⟨v', h1, h2⟩ := hm j y u e' q
      have : y ≠ x := fun z => by subst z; exact hne (name_inj S.ndn e e')
      exact ⟨v', by simp [this, h1], h2⟩
  cel := fun j y kd e' q => by
    obtain ⟨c, o, a, ⟨o', b, b'⟩, r'⟩ := S.cel j y kd e' q
    have hc : c ≠ env.locals := fun z => by
      obtain ⟨od, es, ep, g, g', _⟩ := hn
      rw [z, g] at b
      cases b
      rw [g'] at b'
      cases b'
    refine ⟨c, o, a, ⟨o', (hs.2 c hc).trans b, b'⟩, fun u q' => ?_⟩
    rcases getV_set q' with ⟨rfl, rfl⟩ | ⟨_, q'⟩
    · rw [e] at e'; cases e'; rcases q with q | q <;> cases q
    · exact r' u q'
  cinj := S.cinj
  cnm := S.cnm
  len := S.len
  obj := fun j mo e' => by
    obtain ⟨a, o, b, c, d⟩ := S.obj j mo e'
    exact ⟨a, o, b, (hs.2 a (S.pne S.locl b)).trans c, d⟩
  nd := S.nd
  base := fun b o e' => (hs.2 b (fun z => by rw [z, S.hown _ S.locl] at e'; cases e')).trans (S.base b o e')
  hown := S.hown
  olt := fun b hb => by
    by_cases z : b = env.locals
    · obtain ⟨o, _, _, e', _⟩ := hns; exact ⟨o, z ▸ e'⟩
    · obtain ⟨o, e'⟩ := S.olt b hb; exact ⟨o, (hs.2 b z).trans e'⟩
  hphi := S.hphi
  n0 := S.n0
theorem Stp.but {b : Addr} {o₁ : Obj} (hb : b ∈ own) (hs : Heap.SameBut b h h') (hl : h'.get? b = some o₁) : Stp (Ft k own φ) φ h φ h' :=
  ⟨⟨[], by simp, fun _ q => nomatch q⟩, fun c o e hn => (hs.2 c fun z => hn (.inl (z ▸ hb))).trans e, fun c o e => by
    by_cases z : c = b
    · exact ⟨o₁, z ▸ hl⟩
    · exact ⟨o, (hs.2 c z).trans e⟩⟩
theorem Stt.setCel (S : Stt hB C env nm own k φ ρ σ h) {i : Nat} {x : Str} {v : Value} {mv : MV} {c : Addr} {o₀ : Option Value} (e : nm[i]? = some (x, .cell)) (r : VR φ v mv) (hco : c ∈ own) (hcl : env.cells.lookup x = some c)
    (hc0 : h.IsCell c o₀) (hc : h'.IsCell c (some v)) (hs : Heap.SameBut c h h') : Stt hB C env nm own k φ (setAt ρ i (some mv)) σ h' where
  names := S.names
  ocel := S.ocel
  kind := S.kind
  glob := S.glob
  blt := S.blt
  ndn := S.ndn
  locl := S.locl
  loc := by
    obtain ⟨m, ⟨od, es, ep, g, g', g''⟩, hm⟩ := S.loc
    have hne : env.locals ≠ c := fun z => by
      obtain ⟨o', b, b'⟩ := hc0
      rw [← z, g] at b
      cases b
      rw [g'] at b'
      cases b'
    refine ⟨m, ⟨od, es, ep, (hs.2 _ hne).trans g, g', g''⟩, fun j y u e' q => ?_⟩
    rcases getV_set q with ⟨rfl, rfl⟩ | ⟨_, q⟩
    · rw [e] at e'; cases e'
    · exact hm j y u e' q
  cel := fun j y kd e' q => by
    obtain ⟨c', o, a, ⟨o', b, b'⟩, r'⟩ := S.cel j y kd e' q
    by_cases z : c' = c
    · have hyx := S.cinj y x c (z ▸ a) hcl
      subst hyx
      have hji := name_inj S.ndn e' e
      subst hji
      refine ⟨c, some v, hcl, hc, fun u q' => ?_⟩
      rcases getV_set q' with ⟨_, rfl⟩ | ⟨hne, _⟩
      · exact ⟨v, rfl, r⟩
      · exact absurd rfl hne
    · refine ⟨c', o, a, ⟨o', (hs.2 c' z).trans b, b'⟩, fun u q' => ?_⟩
      rcases getV_set q' with ⟨rfl, rfl⟩ | ⟨_, q'⟩
      · rw [e] at e'; cases e'; exact absurd (Option.some.inj (a.symm.trans hcl)) z
      · exact r' u q'
  cinj := S.cinj
  cnm := S.cnm
  len := S.len
  obj := fun j mo e' => by
    obtain ⟨a, o, b, d, f⟩ := S.obj j mo e'
    exact ⟨a, o, b, (hs.2 a (S.pne hco b)).trans d, f⟩
  nd := S.nd
  base := fun b o e' => (hs.2 b (fun z => by rw [z, S.hown _ hco] at e'; cases e')).trans (S.base b o e')
  hown := S.hown
  olt := fun b hb => by
    by_cases z : b = c
    · obtain ⟨o, e', _⟩ := hc; exact ⟨o, z ▸ e'⟩
    · obtain ⟨o, e'⟩ := S.olt b hb; exact ⟨o, (hs.2 b z).trans e'⟩
  hphi := S.hphi
  n0 := S.n0
/-- a name that may be stored -/
def Nmd (nm : List (Str × NameKind)) (i : Nat) (x : Str) : Prop := nm[i]? = some (x, .local) ∨ nm[i]? = some (x, .cell)
theorem store_name {A : Around} {s : Shared} {i : Nat} {x : Str} {v : Value} {mv : MV} {Q : Unit → Shared → Prop} {E : Value → Shared → Prop} (S : Stt hB C env nm own k φ ρ σ s.heap) (hx : Nmd nm i x) (r : VR φ v mv)
    (G : ∀ h' tk, Stp (Ft k own φ) φ s.heap φ h' → Stt hB C env nm own k φ (setAt ρ i (some mv)) σ h' → Q () { s with heap := h', toks := tk }) : wpAny (model prog w) A (storeName env x v) Q E s := by
  rcases hx with e | e
  · obtain ⟨m, hns, hm⟩ := S.loc
    refine wpAny_storeName_local ((S.names i x _ e).resolve_right fun q => nomatch q.1) hns (fun h' hn hs => G h' _ (Stp.but S.locl hs hn.choose_spec.choose_spec.choose_spec.1) (S.setLoc e r hm hns hn hs)) ?_
    rw [S.kind]; rfl
  · obtain ⟨c, hco, hcl⟩ := S.ocel i x e
    obtain ⟨c', o, hl', hcell, _⟩ := S.cel i x _ e (.inl rfl)
    rw [hcl] at hl'
    cases hl'
    exact wpAny_storeName_cell S.kind ((S.names i x _ e).resolve_right fun q => nomatch q.1) hcl hcell fun h' hc hs => G h' s.toks (Stp.but hco hs hc.choose_spec.1) (S.setCel e r hco hcl hcell hc hs)
end
end Mine
end

section
namespace Mine
open PySem PyProof.Rows

section
variable {prog : Program} {w : World} {hB : Heap} {C : Addr} {n : Nat} {nm : List (Str × NameKind)}
def FlR (φ : List Addr) (f : Flow) : MF → Prop
  | .next => f = .next
  | .brk => f = .brk
  | .ret v => ∃ u, f = .ret u ∧ VR φ u v
/-- what a statement's end asks -/
def Gs (hB : Heap) (C : Addr) (env : Env) (nm : List (Str × NameKind)) (own : List Addr) (k : Kx) (φ : List Addr) (mf : MF) (ρ' : Lo) (σ' : Hp) (s : Shared) (Q : Flow → Shared → Prop) : Prop :=
  ∀ f φ' h' tk, Stp (Ft k own φ) φ s.heap φ' h' → Stt hB C env nm own k φ' ρ' σ' h' → FlR φ' f mf → Q f { s with heap := h', toks := tk }
theorem Gs.from {env : Env} {own : List Addr} {k : Kx} {φ φ₁ : List Addr} {ρ' : Lo} {σ' : Hp} {mf : MF} {s : Shared} {Q : Flow → Shared → Prop} {h₁ : Heap} {tk : Nat} (G : Gs hB C env nm own k φ mf ρ' σ' s Q) (x : Stp (Ft k own φ) φ s.heap φ₁ h₁) : Gs hB C env nm own k φ₁ mf ρ' σ' { s with heap := h₁, toks := tk } Q :=
  fun f φ' h' tk y z r => G f φ' h' tk (x.trans y) z r
def SS (prog : Program) (w : World) (hB : Heap) (C : Addr) (n : Nat) (nm : List (Str × NameKind)) (st : Stmt) (c : CS) : Prop :=
  ∀ (A : Around) (env : Env) (own : List Addr) (k : Kx) (φ : List Addr) (ρ : Lo) (σ : Hp) (s : Shared) (mf : MF) (ρ' : Lo) (σ' : Hp),
    AOK n A → Stt hB C env nm own k φ ρ σ s.heap → c k ρ σ = some (mf, ρ', σ') →
    ∀ (Q : Flow → Shared → Prop) (E : Value → Shared → Prop), Gs hB C env nm own k φ mf ρ' σ' s Q → wpAny (model prog w) A (exec st env) Q E s
def SB (prog : Program) (w : World) (hB : Heap) (C : Addr) (n : Nat) (nm : List (Str × NameKind)) (ss : List Stmt) (c : CS) : Prop :=
  ∀ (A : Around) (env : Env) (own : List Addr) (k : Kx) (φ : List Addr) (ρ : Lo) (σ : Hp) (s : Shared) (mf : MF) (ρ' : Lo) (σ' : Hp),
    AOK n A → Stt hB C env nm own k φ ρ σ s.heap → c k ρ σ = some (mf, ρ', σ') →
    ∀ (Q : Flow → Shared → Prop) (E : Value → Shared → Prop), Gs hB C env nm own k φ mf ρ' σ' s Q → wpAny (model prog w) A (execs ss env) Q E s
theorem SB_nil : SB prog w hB C n nm [] (sSeq []) := by
  intro A env own k φ ρ σ s mf ρ' σ' _ S e Q E G
  cases e
  exact wpAny_execs_nil (G .next φ s.heap s.toks .refl S rfl)
theorem SB_cons {st : Stmt} {ss : List Stmt} {c : CS} {cs : List CS} (h : SS prog w hB C n nm st c) (hs : SB prog w hB C n nm ss (sSeq cs)) : SB prog w hB C n nm (st :: ss) (sSeq (c :: cs)) := by
  intro A env own k φ ρ σ s mf ρ' σ' hA S e Q E G
  have e : andThen (c k ρ σ) (fun ρ σ => sSeq cs k ρ σ) = some (mf, ρ', σ') := e
  cases ec : c k ρ σ with
  | none => rw [ec] at e; cases e
  | some p =>
    obtain ⟨f, ρ₁, σ₁⟩ := p
    rw [ec] at e
    refine wpAny_execs_cons (h A env own k φ ρ σ s f ρ₁ σ₁ hA S ec _ E fun fl φ₁ h₁ tk₁ x₁ S₁ r₁ => ?_)
    cases f with
    | next => cases r₁; exact hs A env own k φ₁ ρ₁ σ₁ _ mf ρ' σ' hA S₁ e Q E (G.from x₁)
    | brk => cases r₁; cases e; exact G .brk φ₁ h₁ tk₁ x₁ S₁ rfl
    | ret v => obtain ⟨u, rfl, r⟩ := r₁; cases e; exact G _ φ₁ h₁ tk₁ x₁ S₁ ⟨u, rfl, r⟩
theorem SS_if {t : Expr} {a b : List Stmt} {p : Pos} {ct : CT} {ca cb : CS} (ht : ST prog w hB C n nm t ct) (ha : SB prog w hB C n nm a ca) (hb : SB prog w hB C n nm b cb) : SS prog w hB C n nm (.If t a b p) (sIf ct ca cb) := by
  intro A env own k φ ρ σ s mf ρ' σ' hA S e Q E G
  obtain ⟨c, σ₁, e1, e⟩ := bnd_some.mp e
  refine wpAny_If (ht A env own k φ ρ σ s c σ₁ hA S e1 _ E fun φ₁ h₁ tk₁ x₁ S₁ => ?_)
  cases c with
  | true => exact ha A env own k φ₁ ρ σ₁ _ mf ρ' σ' hA S₁ e Q E (G.from x₁)
  | false => exact hb A env own k φ₁ ρ σ₁ _ mf ρ' σ' hA S₁ e Q E (G.from x₁)
theorem SS_ret {x : Expr} {p : Pos} {c : CE} (h : SE prog w hB C n nm x c) : SS prog w hB C n nm (.Return (some x) p) (sRet c) := by
  intro A env own k φ ρ σ s mf ρ' σ' hA S e Q E G
  obtain ⟨v, σ₁, e1, e⟩ := bnd_some.mp e
  refine wpAny_Return_some (h A env own k φ ρ σ s v σ₁ hA S e1 _ E fun va φ₁ h₁ tk₁ x₁ S₁ r₁ => ?_)
  cases e
  exact G _ φ₁ h₁ tk₁ x₁ S₁ ⟨va, rfl, r₁⟩
theorem SS_brk {p : Pos} : SS prog w hB C n nm (.Break p) sBrk := by
  intro A env own k φ ρ σ s mf ρ' σ' _ S e Q E G
  cases e
  exact wpAny_Break (G .brk φ s.heap s.toks .refl S rfl)
theorem SS_nm {i : Nat} {x : Str} {q p : Pos} {v : Expr} {c : CE} (hx : Nmd nm i x) (h : SE prog w hB C n nm v c) (hs : ∀ env, swapsWith v (some (.Name x q)) p.line env = pure false) : SS prog w hB C n nm (.Assign [.Name x q] v p) (sNm i c) := by
  intro A env own k φ ρ σ s mf ρ' σ' hA S e Q E G
  obtain ⟨u, σ₁, e1, e⟩ := bnd_some.mp e
  rw [setK_eq] at e
  cases e
  refine wpAny_Assign_Name (h A env own k φ ρ σ s u _ hA S e1 _ E fun va φ₁ h₁ tk₁ x₁ S₁ r₁ => ?_) (hs env)
  exact store_name S₁ hx r₁ fun h' tk x₂ S₂ => (G.from x₁) .next φ₁ h' tk x₂ S₂ rfl
end
end Mine
end

section
namespace Mine
open PySem PyProof.Rows

section
variable {prog : Program} {w : World} {hB : Heap} {C : Addr} {n : Nat} {nm : List (Str × NameKind)}
theorem HExt.but {h h' : Heap} {a : Addr} (x : Heap.ExtBut a h h') (ha : h.get? a = none) : HExt h h' := fun b o e => x b o (fun z => by rw [z, ha] at e; cases e) e
theorem get?_size (h : Heap) : h.get? h.objs.size = none := by
  cases q : h.get? h.objs.size with
  | none => rfl
  | some o => exact absurd (Heap.lt_size q) (Nat.lt_irrefl _)
theorem SS_exp {x : Expr} {p : Pos} {c : CE} (h : SE prog w hB C n nm x c) (hs : ∀ env, swapsWith x none p.line env = pure false) : SS prog w hB C n nm (.Expr x p) (sExp c) := by
  intro A env own k φ ρ σ s mf ρ' σ' hA S e Q E G
  obtain ⟨v, σ₁, e1, e⟩ := bnd_some.mp e
  cases e
  refine wpAny_Expr_any (h A env own k φ ρ σ s v _ hA S e1 _ E fun va φ₁ h₁ tk₁ x₁ S₁ r₁ => G .next φ₁ h₁ tk₁ x₁ S₁ rfl) ?_ (hs env)
  unfold interactive
  rw [S.kind]
  rfl
/-- names to be stored -/
def Nmds (nm : List (Str × NameKind)) : List Nat → List Expr → Prop
  | [], [] => True
  | i :: is, e :: es => (∃ x p, e = .Name x p ∧ Nmd nm i x) ∧ Nmds nm is es
  | _, _ => False
theorem Nmds.each {env : Env} : ∀ {is : List Nat} {es : List Expr}, Nmds nm is es → (assignEach es env).map (·.2) = es.map (fun t => assign t env) ∧ (assignEach es env).length = is.length ∧ (assignEach es env).findIdx? (·.1) = none
  | [], [], _ => ⟨rfl, rfl, rfl⟩
  | i :: is, e :: es, h => by
    obtain ⟨⟨x, p, rfl, _⟩, h2⟩ := h
    obtain ⟨a, b, c⟩ := Nmds.each (env := env) h2
    refine ⟨?_, ?_, ?_⟩
    · show assign (.Name x p) env :: (assignEach es env).map (·.2) = _; rw [a]; rfl
    · show (assignEach es env).length + 1 = _; rw [b]; rfl
    · show ((false, assign (.Name x p) env) :: assignEach es env).findIdx? (·.1) = none
      rw [List.findIdx?_cons, c]; rfl
  | [], _ :: _, h => h.elim
  | _ :: _, [], h => h.elim
theorem inOrder {A : Around} {env : Env} {own : List Addr} {k : Kx} {φ : List Addr} {σ : Hp} {Q : Unit → Shared → Prop} {E : Value → Shared → Prop} :
    ∀ {is : List Nat} {es : List Expr} {vs : List Value} {ms : List MV} {ρ ρ' : Lo} {s : Shared}, Nmds nm is es → VRs φ vs ms → setMany ρ is ms = some ρ' → Stt hB C env nm own k φ ρ σ s.heap →
      (∀ h' tk, Stp (Ft k own φ) φ s.heap φ h' → Stt hB C env nm own k φ ρ' σ h' → Q () { s with heap := h', toks := tk }) → wpAny (model prog w) A (assignInOrder (es.map fun t => assign t env) vs) Q E s
  | [], [], [], [], ρ, ρ', s, _, _, e, S, G => by cases e; exact wpAny_assignInOrder_none (G s.heap s.toks .refl S)
  | i :: is, x :: es, v :: vs, m :: ms, ρ, ρ', s, hn, r, e, S, G => by
    obtain ⟨⟨y, p, rfl, hx⟩, hn⟩ := hn
    unfold setMany at e
    rw [setK_eq] at e
    refine wpAny_assignInOrder_more (wpAny_assign_Name (store_name S hx r.1 fun h' tk x₁ S₁ => ?_))
    exact inOrder hn r.2 e S₁ fun h'' tk' x₂ S₂ => G h'' tk' (x₁.trans x₂) S₂
  | [], [], [], _ :: _, _, _, _, _, r, _, _, _ => r.elim
  | [], [], _ :: _, [], _, _, _, _, r, _, _, _ => r.elim
  | [], [], _ :: _, _ :: _, _, _, _, _, _, e, _, _ => by cases e
  | [], _ :: _, _, _, _, _, _, h, _, _, _, _ => h.elim
  | _ :: _, [], _, _, _, _, _, h, _, _, _, _ => h.elim
  | _ :: _, _ :: _, [], [], _, _, _, _, _, e, _, _ => by cases e
  | _ :: _, _ :: _, [], _ :: _, _, _, _, _, r, _, _, _ => r.elim
  | _ :: _, _ :: _, _ :: _, [], _, _, _, _, r, _, _, _ => r.elim
theorem setMany_length : ∀ {is : List Nat} {ms : List MV} {ρ ρ' : Lo}, setMany ρ is ms = some ρ' → is.length = ms.length
  | [], [], _, _, _ => rfl
  | _ :: is, _ :: ms, ρ, ρ', e => by
    unfold setMany at e
    rw [setK_eq] at e
    exact congrArg (· + 1) (setMany_length e)
  | [], _ :: _, _, _, e => by cases e
  | _ :: _, [], _, _, e => by cases e
/-- a tuple taken apart -/
theorem assign_tup {A : Around} {env : Env} {own : List Addr} {k : Kx} {φ : List Addr} {ρ ρ' : Lo} {σ : Hp} {s : Shared} {is : List Nat} {es : List Expr} {q : Nat} {p : Pos} {v : Value} {mv : MV} {Q : Unit → Shared → Prop} {E : Value → Shared → Prop}
    (hA : AOK n A) (hn : Nmds nm is es) (S : Stt hB C env nm own k φ ρ σ s.heap) (r : VR φ v mv) (e : unpackV σ ρ is mv = some ρ')
    (G : ∀ h' tk, Stp (Ft k own φ) φ s.heap φ h' → Stt hB C env nm own k φ ρ' σ h' → Q () { s with heap := h', toks := tk }) : wpAny (model prog w) A (assign (.Tuple es q p) env v) Q E s := by
  unfold unpackV at e
  split at e <;> try (cases e; done)
  split at e <;> try (cases e; done)
  rename_i j x ex
  obtain ⟨a, vs, e1, rfl, e2, rs⟩ := S.tuple ex r
  obtain ⟨f1, f2, f3⟩ := hn.each (env := env)
  refine wpAny_assign_Tuple (items := vs.toArray) hA.handled ⟨_, e2, rfl, _, rfl⟩ (by rw [f2, setMany_length e, ← rs.length]; simp) f3 fun h' x' => ?_
  rw [f1]
  have y := HExt.but x' (get?_size _)
  refine inOrder (s := { s with heap := h' }) hn (by simpa using rs) e (S.ext y) fun h'' tk x₂ S₂ => ?_
  exact G h'' tk ((Stp.ext y).trans x₂) S₂
end
end Mine
end

section
namespace Mine
open PySem PyProof.Rows

section
variable {prog : Program} {w : World} {hB : Heap} {C : Addr} {n : Nat} {nm : List (Str × NameKind)}
/-- what is known of a frame's names -/
def Knows (nm : List (Str × NameKind)) (env : Env) : Prop := env.scope.kind = .function ∧ ∀ (i : Nat) (x : Str) (kd : NameKind), nm[i]? = some (x, kd) → env.kindOf x = some kd ∨ (kd = .free ∧ env.kindOf x = some .cell)
theorem SS_tp {is : List Nat} {es : List Expr} {q : Nat} {tp p : Pos} {v : Expr} {c : CE} (hn : Nmds nm is es) (h : SE prog w hB C n nm v c) (hs : ∀ env, swapsWithSole [.Tuple es q tp] v p.line env = pure false)
    (hw : ∀ env, Knows nm env → swappedStores [.Tuple es q tp] v env = pure none) : SS prog w hB C n nm (.Assign [.Tuple es q tp] v p) (sTp is c) := by
  intro A env own k φ ρ σ s mf ρ' σ' hA S e Q E G
  obtain ⟨u, σ₁, e1, e⟩ := bnd_some.mp e
  obtain ⟨ρ₁, e2, e⟩ := bd1_some.mp e
  cases e
  refine Assign_Tuple (h A env own k φ ρ σ s u _ hA S e1 _ E fun va φ₁ h₁ tk₁ x₁ S₁ r₁ => ?_) (hs env) (hw env ⟨S.kind, S.names⟩)
  exact assign_tup hA hn S₁ r₁ e2 fun h' tk x₂ S₂ => (G.from x₁) .next φ₁ h' tk x₂ S₂ rfl
theorem setAt_comm {α : Type} (l : List α) (i j : Nat) (u v : α) (hne : i ≠ j) : setAt (setAt l i u) j v = setAt (setAt l j v) i u := by
  induction l generalizing i j with
  | nil => rfl
  | cons a l ih =>
    cases i with
    | zero => cases j with
      | zero => exact absurd rfl hne
      | succ j => rfl
    | succ i => cases j with
      | zero => rfl
      | succ j => show a :: setAt (setAt l i u) j v = a :: setAt (setAt l j v) i u; rw [ih i j (fun z => hne (by rw [z]))]
/-- two names from a display: the second is stored first -/
theorem SS_tp2 {i j : Nat} {x y : Str} {px py : Pos} {q : Nat} {tp p : Pos} {v : Expr} {c : CE} (hx : Nmd nm i x) (hy : Nmd nm j y) (hij : i ≠ j) (h : SE prog w hB C n nm v c) (hs : ∀ env, swapsWithSole [.Tuple [.Name x px, .Name y py] q tp] v p.line env = pure false)
    (hw : ∀ env, Knows nm env → swappedStores [.Tuple [.Name x px, .Name y py] q tp] v env = pure (some [x, y])) : SS prog w hB C n nm (.Assign [.Tuple [.Name x px, .Name y py] q tp] v p) (sTp [i, j] c) := by
  intro A env own k φ ρ σ s mf ρ' σ' hA S e Q E G
  obtain ⟨u, σ₁, e1, e⟩ := bnd_some.mp e
  obtain ⟨ρ₁, e2, e⟩ := bd1_some.mp e
  cases e
  refine Assign_Tuple_swapped (names := [x, y]) (h A env own k φ ρ σ s u _ hA S e1 _ E fun va φ₁ h₁ tk₁ x₁ S₁ r₁ => ?_) (hs env) (hw env ⟨S.kind, S.names⟩)
  unfold unpackV at e2
  split at e2 <;> try (cases e2; done)
  split at e2 <;> try (cases e2; done)
  rename_i jj xs ex
  obtain ⟨a, vs, _, rfl, e3, rs⟩ := S₁.tuple ex r₁
  have hl := setMany_length e2
  have hl2 : vs.length = 2 := rs.length.trans hl.symm
  obtain ⟨va, vb, rfl⟩ := len_two hl2
  obtain ⟨ma, mb, rfl⟩ := len_two hl.symm
  unfold setMany setMany setMany at e2
  rw [setK_eq, setK_eq] at e2
  cases e2
  refine wpAny_unpackItems_tuple (items := #[va, vb]) hA.handled ⟨_, e3, rfl, _, rfl⟩ fun h' x' => ?_
  have z := HExt.but x' (get?_size _)
  refine wpAny_assignInOrder_more (wpAny_bindName (store_name (s := ⟨h', _, _, _, _⟩) (S₁.ext z) hy rs.2.1 fun h₂ tk₂ x₂ S₂ => ?_))
  refine wpAny_assignInOrder_more (wpAny_bindName (store_name (s := ⟨h₂, _, _, tk₂, _⟩) S₂ hx rs.1 fun h₃ tk₃ x₃ S₃ => ?_))
  refine wpAny_assignInOrder_none ?_
  rw [setAt_comm _ _ _ _ _ (fun q => hij q.symm)] at S₃
  exact (G.from x₁) .next φ₁ h₃ tk₃ (((Stp.ext z).trans x₂).trans x₃) S₃ rfl
end
end Mine
end

section
namespace Mine
open PySem PyProof.Rows

section
variable {prog : Program} {w : World} {hB : Heap} {C : Addr} {n : Nat} {nm : List (Str × NameKind)}
/-- an address that the frame's state does not speak of -/
structure Alien (hB : Heap) (env : Env) (own φ : List Addr) (b : Addr) : Prop where
  own : b ∉ own
  phi : b ∉ φ
  base : hB.get? b = none
  cel : ∀ x, env.cells.lookup x ≠ some b
theorem Stt.alien {env : Env} {own : List Addr} {k : Kx} {φ : List Addr} {ρ : Lo} {σ : Hp} {h h' : Heap} (S : Stt hB C env nm own k φ ρ σ h) {wr : List Addr} (ha : ∀ b ∈ wr, Alien hB env own φ b)
    (x : ∀ b o, b ∉ wr → h.get? b = some o → h'.get? b = some o) : Stt hB C env nm own k φ ρ σ h' where
  names := S.names
  ocel := S.ocel
  kind := S.kind
  glob := S.glob
  blt := S.blt
  ndn := S.ndn
  locl := S.locl
  loc := by
    obtain ⟨m, ⟨o, es, ep, a, b, c⟩, r⟩ := S.loc
    exact ⟨m, ⟨o, es, ep, x _ _ (fun q => (ha _ q).own S.locl) a, b, c⟩, r⟩
  cel := fun i y kd e q => by
    obtain ⟨c, o, a, ⟨o', b, b'⟩, r⟩ := S.cel i y kd e q
    exact ⟨c, o, a, ⟨o', x _ _ (fun z => (ha _ z).cel y a) b, b'⟩, r⟩
  cinj := S.cinj
  cnm := S.cnm
  len := S.len
  obj := fun i mo e => by
    obtain ⟨a, o, b, c, d⟩ := S.obj i mo e
    exact ⟨a, o, b, x _ _ (fun z => (ha _ z).phi (List.mem_of_getElem? b)) c, d⟩
  nd := S.nd
  base := fun b o e => x _ _ (fun z => by rw [(ha _ z).base] at e; cases e) (S.base b o e)
  hown := S.hown
  olt := fun b hb => by obtain ⟨o, e⟩ := S.olt b hb; exact ⟨o, x _ _ (fun z => (ha _ z).own hb) e⟩
  hphi := S.hphi
  n0 := S.n0
theorem Stt.fresh {env : Env} {own : List Addr} {k : Kx} {φ : List Addr} {ρ : Lo} {σ : Hp} {h : Heap} (S : Stt hB C env nm own k φ ρ σ h) {b : Addr} (hb : h.get? b = none) : Alien hB env own φ b where
  own := fun q => by obtain ⟨o, e⟩ := S.olt b q; rw [hb] at e; cases e
  phi := fun q => by
    obtain ⟨i, e⟩ := List.getElem?_of_mem q
    obtain ⟨o, e⟩ := S.plt e
    rw [hb] at e; cases e
  base := by
    cases q : hB.get? b with
    | none => rfl
    | some o => rw [S.base b o q] at hb; cases hb
  cel := fun x e => by
    obtain ⟨i, kd, e1, e2⟩ := S.cnm x b e
    obtain ⟨c, o, e3, ⟨o', e4, _⟩, _⟩ := S.cel i x kd e1 e2
    rw [e] at e3; cases e3; rw [hb] at e4; cases e4
end
end Mine
end

section
namespace Mine
open PySem PyProof.Rows

section
variable {prog : Program} {w : World} {hB : Heap} {C : Addr} {n : Nat} {nm : List (Str × NameKind)}
theorem Stt.rek {env : Env} {own : List Addr} {k k' : Kx} {φ : List Addr} {ρ : Lo} {σ : Hp} {h : Heap} (S : Stt hB C env nm own k φ ρ σ h) (e : k'.n₀ = k.n₀) : Stt hB C env nm own k' φ ρ σ h :=
  { S with hphi := fun i a hi q => S.hphi i a (e ▸ hi) q, n0 := e ▸ S.n0 }
theorem still_n0 (k : Kx) (f : Option Nat) : (k.still f).n₀ = k.n₀ := by cases f <;> rfl
theorem still_mut {k : Kx} {f : Option Nat} {i : Nat} (h : (k.still f).mut i = true) : k.mut i = true := by
  cases f with
  | none => exact h
  | some j =>
    unfold Kx.mut at h ⊢
    simp only [Kx.still, cnd_eq] at h ⊢
    split at h
    · rename_i q; simp only [q, if_true]
      unfold memN at h
      simp only [cnd_eq] at h
      split at h
      · cases h
      · exact h
    · cases h
theorem still_not {k : Kx} {j : Nat} : (k.still (some j)).mut j = false := by
  unfold Kx.mut Kx.still memN
  simp only [cnd_eq]
  split
  · have : Nat.beq j j = true := Nat.beq_refl j
    rw [this]; rfl
  · rfl
theorem Ft.still {k : Kx} {f : Option Nat} {own φ : List Addr} {b : Addr} (h : Ft (k.still f) own φ b) : Ft k own φ b := by
  rcases h with h | ⟨i, hi, e⟩
  · exact .inl h
  · exact .inr ⟨i, still_mut hi, e⟩
/-- a step that may change what stands in ex besides -/
structure Stw (ex : List Addr) (F : Addr → Prop) (φ : List Addr) (h : Heap) (φ' : List Addr) (h' : Heap) : Prop where
  pre : ∃ t, φ' = φ ++ t ∧ ∀ a ∈ t, h.get? a = none
  keep : ∀ b o, h.get? b = some o → ¬ F b → b ∉ ex → h'.get? b = some o
  live : ∀ b o, h.get? b = some o → ∃ o', h'.get? b = some o'
theorem Stw.refl {ex : List Addr} {F : Addr → Prop} {φ : List Addr} {h : Heap} : Stw ex F φ h φ h := ⟨⟨[], by simp, fun _ h => nomatch h⟩, fun _ _ e _ _ => e, fun _ o e => ⟨o, e⟩⟩
theorem Stp.stw {ex : List Addr} {F : Addr → Prop} {φ φ' : List Addr} {h h' : Heap} (x : Stp F φ h φ' h') : Stw ex F φ h φ' h' := ⟨x.pre, fun b o e q _ => x.keep b o e q, x.live⟩
theorem Stw.trans {ex : List Addr} {k : Kx} {own φ φ₁ φ₂ : List Addr} {h h₁ h₂ : Heap} (x : Stw ex (Ft k own φ) φ h φ₁ h₁) (y : Stw ex (Ft k own φ₁) φ₁ h₁ φ₂ h₂) : Stw ex (Ft k own φ) φ h φ₂ h₂ := by
  obtain ⟨t, rfl, ht⟩ := x.pre
  obtain ⟨u, rfl, hu⟩ := y.pre
  refine ⟨⟨t ++ u, by simp, fun a ha => ?_⟩, fun b o e hn hx => ?_, fun b o e => ?_⟩
  · rcases List.mem_append.mp ha with ha | ha
    · exact ht a ha
    · cases q : h.get? a with
      | none => rfl
      | some o =>
        obtain ⟨o', e'⟩ := x.live a o q
        rw [hu a ha] at e'
        cases e'
  · exact y.keep b o (x.keep b o e hn hx) (fun q => hn (q.back e ht)) hx
  · obtain ⟨o', e'⟩ := x.live b o e
    exact y.live b o' e'
/-- what a loop leaves, from before its iterator was made -/
theorem Stw.close {ex : List Addr} {F F' : Addr → Prop} {φ φ' : List Addr} {h₀ h h' h'' : Heap} (x : Stw ex F φ h φ' h') (x₀ : HExt h₀ h) (hd : ∀ b ∈ ex, h₀.get? b = none) (y : ∀ b o, b ∉ ex → h'.get? b = some o → h''.get? b = some o) (hF : ∀ b, F b → F' b) :
    Stp F' φ h₀ φ' h'' := by
  obtain ⟨t, rfl, ht⟩ := x.pre
  have nex : ∀ b o, h₀.get? b = some o → b ∉ ex := fun b o e q => by rw [hd b q] at e; cases e
  refine ⟨⟨t, rfl, fun a ha => ?_⟩, fun b o e q => ?_, fun b o e => ?_⟩
  · cases q : h₀.get? a with
    | none => rfl
    | some o => have := x₀ a o q; rw [ht a ha] at this; cases this
  · exact y b o (nex b o e) (x.keep b o (x₀ b o e) (fun z => q (hF b z)) (nex b o e))
  · obtain ⟨o', e'⟩ := x.live b o (x₀ b o e)
    exact ⟨o', y b o' (nex b o e) e'⟩

/-- an object of the store changed -/
theorem Stt.setObj {env : Env} {own : List Addr} {k : Kx} {φ : List Addr} {ρ : Lo} {σ : Hp} {h h' : Heap} (S : Stt hB C env nm own k φ ρ σ h) {j : Nat} {a : Addr} {o : Obj} {mo : MO} (ea : φ[j]? = some a) (hj : k.n₀ ≤ j)
    (hs : Heap.SameBut a h h') (ho : h'.get? a = some o) (hnc : ∀ o', h.get? a = some o' → ∀ v, o'.data ≠ .cell v) (r : OR C φ o mo) : Stt hB C env nm own k φ ρ (setAt σ j mo) h' where
  names := S.names
  ocel := S.ocel
  kind := S.kind
  glob := S.glob
  blt := S.blt
  ndn := S.ndn
  locl := S.locl
  loc := by
    obtain ⟨m, ⟨o, es, ep, g, g', g''⟩, hm⟩ := S.loc
    exact ⟨m, ⟨o, es, ep, (hs.2 _ (fun z => S.pne S.locl ea z.symm)).trans g, g', g''⟩, hm⟩
  cel := fun i y kd e q => by
    obtain ⟨c, o', a', ⟨o'', b, b'⟩, r'⟩ := S.cel i y kd e q
    refine ⟨c, o', a', ⟨o'', (hs.2 _ (fun z => ?_)).trans b, b'⟩, r'⟩
    rw [z] at b
    exact hnc _ b _ b'
  cinj := S.cinj
  cnm := S.cnm
  len := by rw [setAt_length]; exact S.len
  obj := fun i m e => by
    rw [setAt_get] at e
    split at e
    · rename_i q
      subst q
      split at e
      · cases e; exact ⟨a, o, ea, ho, r⟩
      · cases e
    · rename_i q
      obtain ⟨a', o', e1, e2, r'⟩ := S.obj i m e
      refine ⟨a', o', e1, (hs.2 _ (fun z => ?_)).trans e2, r'⟩
      have hi := (List.getElem?_eq_some_iff.mp e1).1
      exact q ((List.getElem?_inj hi (List.nodup_append.mp S.nd).2.1).mp (e1.trans (z ▸ ea.symm))).symm
  nd := S.nd
  base := fun b o' e => (hs.2 b (fun z => by rw [z, S.hphi j a hj ea] at e; cases e)).trans (S.base b o' e)
  hown := S.hown
  olt := fun b hb => by
    obtain ⟨o', e⟩ := S.olt b hb
    exact ⟨o', (hs.2 b (fun z => S.pne hb ea z.symm)).trans e⟩
  hphi := S.hphi
  n0 := by rw [setAt_length]; exact S.n0
theorem mut_n0 {k : Kx} {j : Nat} (h : k.mut j = true) : k.n₀ ≤ j := by
  unfold Kx.mut at h
  rw [cnd_eq] at h
  split at h
  · rename_i q; exact Nat.le_of_ble_eq_true q
  · cases h
theorem Stp.obj {k : Kx} {own φ : List Addr} {h h' : Heap} {j : Nat} {a : Addr} {o : Obj} (hm : k.mut j = true) (ea : φ[j]? = some a) (hs : Heap.SameBut a h h') (ho : h'.get? a = some o) : Stp (Ft k own φ) φ h φ h' :=
  ⟨⟨[], by simp, fun _ q => nomatch q⟩, fun c o' e hn => (hs.2 c fun z => hn (.inr ⟨j, hm, z ▸ ea⟩)).trans e, fun c o' e => by
    by_cases z : c = a
    · exact ⟨o, z ▸ ho⟩
    · exact ⟨o', (hs.2 c z).trans e⟩⟩

/-- the caller's frame, behind a call or a comprehension -/
theorem Stt.resume {env env' : Env} {nm' : List (Str × NameKind)} {own own' : List Addr} {k k' : Kx} {φ φ' : List Addr} {ρ ρ' : Lo} {σ σ' : Hp} {h h' : Heap} (S : Stt hB C env nm own k φ ρ σ h)
    (S' : Stt hB C env' nm' own' k' φ' ρ' σ' h') (x : ∃ t, φ' = φ ++ t ∧ ∀ a ∈ t, h.get? a = none) (hx : ∀ b o, h.get? b = some o → (b ∈ own ∨ ∃ y, env.cells.lookup y = some b) → h'.get? b = some o) (hn : σ.length ≤ σ'.length) : Stt hB C env nm own k φ' ρ σ' h' := by
  obtain ⟨t, rfl, ht⟩ := x
  exact {
  names := S.names
  ocel := S.ocel
  kind := S.kind
  glob := S.glob
  blt := S.blt
  ndn := S.ndn
  locl := S.locl
  loc := by
    obtain ⟨m, ⟨o, es, ep, g, g', g''⟩, hm⟩ := S.loc
    refine ⟨m, ⟨o, es, ep, hx _ _ g (.inl S.locl), g', g''⟩, fun i x mv e q => ?_⟩
    obtain ⟨v, e', r⟩ := hm i x mv e q
    exact ⟨v, e', r.mono⟩
  cel := fun i y kd e q => by
    obtain ⟨c, o', a', ⟨o'', b, b'⟩, r'⟩ := S.cel i y kd e q
    refine ⟨c, o', a', ⟨o'', hx _ _ b (.inr ⟨y, a'⟩), b'⟩, fun mv q => ?_⟩
    obtain ⟨v, e', r⟩ := r' mv q
    exact ⟨v, e', r.mono⟩
  cinj := S.cinj
  cnm := S.cnm
  len := S'.len
  obj := S'.obj
  nd := by
    rw [← List.append_assoc]
    refine List.nodup_append.mpr ⟨S.nd, (List.nodup_append.mp (List.nodup_append.mp S'.nd).2.1).2.1, fun a ha b hb e => ?_⟩
    subst e
    rcases List.mem_append.mp ha with ha | ha
    · obtain ⟨o, e⟩ := S.olt a ha; rw [ht a hb] at e; cases e
    · obtain ⟨i, e⟩ := List.getElem?_of_mem ha
      obtain ⟨o, e⟩ := S.plt e; rw [ht a hb] at e; cases e
  base := S'.base
  hown := S.hown
  olt := fun b hb => by obtain ⟨o, e⟩ := S.olt b hb; exact ⟨o, hx b o e (.inl hb)⟩
  hphi := fun i a hi e => by
    by_cases q : i < φ.length
    · rw [List.getElem?_append_left q] at e; exact S.hphi i a hi e
    · rw [List.getElem?_append_right (by omega)] at e
      have := ht a (List.mem_of_getElem? e)
      cases w : hB.get? a with
      | none => rfl
      | some o => rw [S.base a o w] at this; cases this
  n0 := Nat.le_trans S.n0 hn }
end
end Mine
end

section
namespace Mine
open PySem PyProof.Rows

section
variable {prog : Program} {w : World} {hB : Heap} {C : Addr} {n : Nat} {nm : List (Str × NameKind)}
theorem bndS_some {x : RS} {f : MF → Lo → Hp → RS} {y : MF × Lo × Hp} : bndS x f = some y ↔ ∃ a ρ σ, x = some (a, ρ, σ) ∧ f a ρ σ = some y := by
  cases x with
  | none => simp [bndS]
  | some p =>
    obtain ⟨a, ρ, σ⟩ := p
    exact ⟨fun h => ⟨a, ρ, σ, rfl, h⟩, fun ⟨a', ρ', σ', e, h⟩ => by cases e; exact h⟩
theorem Alien.notFt {env : Env} {own : List Addr} {k : Kx} {φ : List Addr} {b : Addr} (x : Alien hB env own φ b) : ¬ Ft k own φ b := fun q => by
  rcases q with q | ⟨i, _, e⟩
  · exact x.own q
  · exact x.phi (List.mem_of_getElem? e)
theorem Alien.later {env : Env} {own : List Addr} {φ t : List Addr} {b : Addr} {h : Heap} (x : Alien hB env own φ b) (hl : ∃ o, h.get? b = some o) (ht : ∀ a ∈ t, h.get? a = none) : Alien hB env own (φ ++ t) b :=
  ⟨x.own, fun q => by
    rcases List.mem_append.mp q with q | q
    · exact x.phi q
    · obtain ⟨o, e⟩ := hl; rw [ht b q] at e; exact (nomatch e), x.base, x.cel⟩
/-- how a loop binds its i-th item -/
def Binds (prog : Program) (w : World) (hB : Heap) (C : Addr) (nm : List (Str × NameKind)) (A : Around) (env : Env) (own : List Addr) (k : Kx) (φ₀ : List Addr) (target : Expr) (P : Nat → Value → Heap → Prop) (bindAt : Nat → Hp → Lo → Option Lo) : Prop :=
  ∀ i v t ρ σ ρ' (s : Shared) (K : Unit → Shared → Prop) (E : Value → Shared → Prop), P i v s.heap → Stt hB C env nm own k (φ₀ ++ t) ρ σ s.heap → bindAt i σ ρ = some ρ' →
    (∀ h' tk, Stp (Ft k own (φ₀ ++ t)) (φ₀ ++ t) s.heap (φ₀ ++ t) h' → Stt hB C env nm own k (φ₀ ++ t) ρ' σ h' → K () { s with heap := h', toks := tk }) → wpAny (model prog w) A (assign target env v) K E s
theorem for_loop {A : Around} {env : Env} {own : List Addr} {k : Kx} {φ₀ : List Addr} {ρ₀ ρ' : Lo} {σ₀ σ' : Hp} {s : Shared} {target : Expr} {body : List Stmt} {cb : CS} {I : Addr} {fp wr : List Addr} {N : Nat}
    {P Md : Nat → Value → Heap → Prop} {St : Nat → Heap → Prop} {mf : MF} {R : Result → Shared → Prop} (hb : SB prog w hB C n nm body cb) (hA : AOK n A) (W : W.KTurns prog w A target I fp wr N P Md St)
    (live : ∀ i h, St i h → ∀ b ∈ fp, ∃ o, h.get? b = some o) (bindAt : Nat → Hp → Lo → Option Lo) (hasg : Binds prog w hB C nm A env own k φ₀ target P bindAt)
    (lp : Nat → Lo → Hp → RS) (lp0 : ∀ ρ σ, lp N ρ σ = some (.next, ρ, σ)) (lpS : ∀ i ρ σ, i < N → lp i ρ σ = bd1 (bindAt i σ ρ) fun ρ => turnOn (cb k ρ σ) (lp (i + 1)))
    (S : Stt hB C env nm own k φ₀ ρ₀ σ₀ s.heap) (st : St 0 s.heap) (hfp : ∀ b ∈ fp, ¬ Ft k own φ₀ b) (hal : ∀ b ∈ wr, Alien hB env own φ₀ b)
    (e : lp 0 ρ₀ σ₀ = some (mf, ρ', σ'))
    (hR : ∀ f φ' h' h'' tk, Stw wr (Ft k own φ₀) φ₀ s.heap φ' h' → (∀ b o, b ∉ wr → h'.get? b = some o → h''.get? b = some o) → Stt hB C env nm own k φ' ρ' σ' h'' → FlR φ' f mf → R (.ok f) { s with heap := h'', toks := tk }) :
    codeAny (model prog w) A (.forLoop target (.ref I) body [] env) R s := by
  obtain ⟨J, mk, el⟩ : ∃ J : Nat → Shared → Prop, (∀ i φ ρ σ h tk, i ≤ N → Stt hB C env nm own k φ ρ σ h → St i h → Stw wr (Ft k own φ₀) φ₀ s.heap φ h → lp i ρ σ = some (mf, ρ', σ') → J (N + 1 - i) { s with heap := h, toks := tk }) ∧
      ∀ m s', J m s' → ∃ i φ ρ σ h tk, s' = { s with heap := h, toks := tk } ∧ m = N + 1 - i ∧ i ≤ N ∧ Stt hB C env nm own k φ ρ σ h ∧ St i h ∧ Stw wr (Ft k own φ₀) φ₀ s.heap φ h ∧ lp i ρ σ = some (mf, ρ', σ') :=
    ⟨fun m s' => ∃ i φ ρ σ h tk, s' = { s with heap := h, toks := tk } ∧ m = N + 1 - i ∧ i ≤ N ∧ Stt hB C env nm own k φ ρ σ h ∧ St i h ∧ Stw wr (Ft k own φ₀) φ₀ s.heap φ h ∧ lp i ρ σ = some (mf, ρ', σ'),
      fun i φ ρ σ h tk a b c d e => ⟨i, φ, ρ, σ, h, tk, rfl, rfl, a, b, c, d, e⟩, fun _ _ h => h⟩
  refine codeAny_forLoop_any J ?_ (N + 1) (mk 0 φ₀ ρ₀ σ₀ s.heap s.toks (Nat.zero_le _) S st .refl e)
  intro m s' hJ
  obtain ⟨i, φ, ρ, σ, h, tk, rfl, rfl, hi, S', st', X, e'⟩ := el m s' hJ
  obtain ⟨t, rfl, ht⟩ := X.pre
  have l0 : ∀ b ∈ fp, ∃ o, s.heap.get? b = some o := live 0 _ st
  have hal' : ∀ b ∈ wr, Alien hB env own (φ₀ ++ t) b := fun b hb => (hal b hb).later (l0 b (W.sub b hb)) ht
  have hfp' : ∀ b ∈ fp, ¬ Ft k own (φ₀ ++ t) b := fun b hb q => by
    obtain ⟨o, eo⟩ := l0 b hb
    exact hfp b hb (q.back eo ht)
  by_cases hlt : i < N
  · rw [lpS i ρ σ hlt] at e'
    obtain ⟨ρ₁, e1, e2⟩ := bd1_some.mp e'
    obtain ⟨f, ρ₂, σ₂, ec, e3⟩ := bndS_some.mp e2
    refine W.item i _ _ _ hlt st' fun v h₁ tk₁ hMd hk₁ => ?_
    refine W.go i v _ _ _ hMd fun h₂ hP st₂ hk₂ => ?_
    have up : ∀ b o, b ∉ wr → h.get? b = some o → h₂.get? b = some o := fun b o hb z => hk₂ b o hb (hk₁ b o hb z)
    have S₂ := S'.alien hal' up
    refine hasg i v t ρ σ ρ₁ _ _ _ hP S₂ e1 fun h₃ tk₃ x₃ S₃ => ?_
    have st₃ : St (i + 1) h₃ := W.frame _ _ _ st₂ fun b hb o z => x₃.keep b o z (hfp' b hb)
    refine hb A env own k _ ρ₁ σ _ f ρ₂ σ₂ hA S₃ ec _ _ fun fl φ₄ h₄ tk₄ x₄ S₄ r₄ => ?_
    have X₂ : Stw wr (Ft k own (φ₀ ++ t)) (φ₀ ++ t) h (φ₀ ++ t) h₂ := ⟨⟨[], by simp, fun _ z => nomatch z⟩, fun b o z _ q => up b o q z, fun b o z => by
      by_cases q : b ∈ wr
      · exact live _ _ st₂ b (W.sub b q)
      · exact ⟨o, up b o q z⟩⟩
    have X₄ := ((X.trans X₂).trans (Stp.stw x₃)).trans (Stp.stw x₄)
    cases f with
    | next =>
      cases r₄
      exact ⟨N + 1 - (i + 1), by omega, mk (i + 1) φ₄ ρ₂ σ₂ h₄ tk₄ hlt S₄ (W.frame _ _ _ st₃ fun b hb o z => x₄.keep b o z (hfp' b hb)) X₄ e3⟩
    | brk =>
      cases r₄
      cases e3
      exact hR .next φ₄ h₄ h₄ tk₄ X₄ (fun _ _ _ z => z) S₄ rfl
    | ret v =>
      obtain ⟨u, rfl, r⟩ := r₄
      cases e3
      exact hR (.ret u) φ₄ h₄ h₄ tk₄ X₄ (fun _ _ _ z => z) S₄ ⟨u, rfl, r⟩
  · have hin : i = N := by omega
    subst hin
    rw [lp0] at e'
    cases e'
    refine W.done _ _ _ st' fun h₁ tk₁ hk₁ => wpAny_execs_nil ?_
    exact hR .next _ h h₁ tk₁ X hk₁ (S'.alien hal' hk₁) rfl
end
end Mine
end

section
namespace Mine
open PySem PyProof.Rows

def Its.fz : Its → Option Nat
  | .plain f _ => f
  | .enum f _ => f
def Its.xs : Its → List MV
  | .plain _ x => x
  | .enum _ x => x
/-- the i-th item, as the loop sees it -/
def Item (φ : List Addr) (its : Its) (i : Nat) (v : Value) (h : Heap) : Prop := match its with
  | .plain _ xs => ∃ m, xs[i]? = some m ∧ VR φ v m
  | .enum _ xs => ∃ T t u m, v = .ref T ∧ h.IsTuple T #[.int i t, u] ∧ xs[i]? = some m ∧ VR φ u m
structure Itd (prog : Program) (w : World) (hB : Heap) (C : Addr) (A : Around) (env : Env) (nm : List (Str × NameKind)) (own : List Addr) (k : Kx) (φ : List Addr) (ρ : Lo) (σ : Hp) (target : Expr) (its : Its) (h₁ h : Heap) (I : Addr)
    (fp wr : List Addr) (P Md : Nat → Value → Heap → Prop) (St : Nat → Heap → Prop) : Prop where
  turns : W.KTurns prog w A target I fp wr its.xs.length P Md St
  live : ∀ i h, St i h → ∀ b ∈ fp, ∃ o, h.get? b = some o
  stt : Stt hB C env nm own k φ ρ σ h
  st : St 0 h
  nft : ∀ b ∈ fp, ¬ Ft (k.still its.fz) own φ b
  ali : ∀ b ∈ wr, Alien hB env own φ b
  item : ∀ i v h, P i v h → Item φ its i v h
  self : ∀ (s : Shared) (Q : Value → Shared → Prop) (E : Value → Shared → Prop), St 0 s.heap → Q (.ref I) s → wpAny (model prog w) A (pyIter (.ref I)) Q E s
  ext : HExt h₁ h
  fresh : ∀ b ∈ wr, h₁.get? b = none
/-- the Python expression e, iterated over with this target, is worked out by c -/
def SI (prog : Program) (w : World) (hB : Heap) (C : Addr) (n : Nat) (nm : List (Str × NameKind)) (target : Expr) (e : Expr) (c : CI) : Prop :=
  ∀ (A : Around) (env : Env) (own : List Addr) (k : Kx) (φ : List Addr) (ρ : Lo) (σ : Hp) (s : Shared) (its : Its) (σ' : Hp),
    AOK n A → Stt hB C env nm own k φ ρ σ s.heap → c k ρ σ = some (its, σ') →
    ∀ (Q : Value → Shared → Prop) (E : Value → Shared → Prop),
      (∀ I φ' h₁ h' tk fp wr P Md St, Stp (Ft k own φ) φ s.heap φ' h₁ → Itd prog w hB C A env nm own k φ' ρ σ' target its h₁ h' I fp wr P Md St → Q (.ref I) { s with heap := h', toks := tk }) →
      wpAny (model prog w) A (eval e env) (fun x s₁ => wpAny (model prog w) A (pyIter x) Q E s₁) E s
def Tgt (nm : List (Str × NameKind)) (t : MT) (target : Expr) : Prop := match t with
  | .one i => ∃ x p, target = .Name x p ∧ Nmd nm i x
  | .many is => ∃ es q p, target = .Tuple es q p ∧ Nmds nm is es

section
variable {prog : Program} {w : World} {hB : Heap} {C : Addr} {n : Nat} {nm : List (Str × NameKind)}
theorem drop_at {α : Type} {xs : List α} {i : Nat} (hi : i < xs.length) : ∃ x, xs[i]? = some x ∧ xs.drop i = x :: xs.drop (i + 1) :=
  ⟨xs[i], by simp [hi], List.drop_eq_getElem_cons hi⟩
/-- a loop over what is taken; its end -/
theorem loop_its {A : Around} {env : Env} {own : List Addr} {k : Kx} {φ₀ : List Addr} {ρ₀ ρ' : Lo} {σ₀ σ' : Hp} {s : Shared} {target : Expr} {body : List Stmt} {cb : CS} {t : MT} {its : Its} {h₁ : Heap} {I : Addr} {fp wr : List Addr}
    {P Md : Nat → Value → Heap → Prop} {St : Nat → Heap → Prop} {mf : MF} {R : Result → Shared → Prop} (hb : SB prog w hB C n nm body cb) (hA : AOK n A) (ht : Tgt nm t target)
    (D : Itd prog w hB C A env nm own k φ₀ ρ₀ σ₀ target its h₁ s.heap I fp wr P Md St) (e : loopI t its cb k ρ₀ σ₀ = some (mf, ρ', σ'))
    (hR : ∀ f φ' h' tk, Stp (Ft k own φ₀) φ₀ h₁ φ' h' → Stt hB C env nm own k φ' ρ' σ' h' → FlR φ' f mf → R (.ok f) { s with heap := h', toks := tk }) :
    codeAny (model prog w) A (.forLoop target (.ref I) body [] env) R s := by
  have fin : ∀ f φ' h' h'' tk, Stw wr (Ft (k.still its.fz) own φ₀) φ₀ s.heap φ' h' → (∀ b o, b ∉ wr → h'.get? b = some o → h''.get? b = some o) → Stt hB C env nm own (k.still its.fz) φ' ρ' σ' h'' → FlR φ' f mf → R (.ok f) { s with heap := h'', toks := tk } :=
    fun f φ' h' h'' tk x y S r => hR f φ' h'' tk (x.close D.ext D.fresh y fun b z => z.still) (S.rek (still_n0 k its.fz).symm) r
  have S₀ := D.stt.rek (k' := k.still its.fz) (still_n0 k its.fz)
  cases its with
  | plain f xs =>
    refine for_loop (n := n) hb hA D.turns D.live (fun i σ ρ => bd1 xs[i]? (bindT σ ρ t)) ?_ (fun i ρ σ => forP (cb (k.still f)) t (xs.drop i) ρ σ) ?_ ?_ S₀ D.st D.nft D.ali e fin
    · intro i v u ρ σ ρ₁ s' K E hP S e G
      obtain ⟨m, hm, r⟩ := D.item i v _ hP
      simp only [hm] at e
      obtain ⟨_, e0, e⟩ := bd1_some.mp e
      cases e0
      cases t with
      | one j =>
        obtain ⟨x, p, rfl, hx⟩ := ht
        have e : setK ρ j (some m) some = some ρ₁ := e
        rw [setK_eq] at e
        cases e
        exact wpAny_assign_Name (store_name S hx r.mono G)
      | many is =>
        obtain ⟨es, q, p, rfl, hn⟩ := ht
        exact assign_tup hA hn S r.mono e G
    · intro ρ σ
      show forP _ _ (xs.drop xs.length) _ _ = _
      rw [List.drop_length]; rfl
    · intro i ρ σ hi
      obtain ⟨x, e1, e2⟩ := drop_at (xs := xs) hi
      simp only [e1, e2]
      rfl
  | enum f xs =>
    cases t with
    | one j => cases e
    | many is =>
      match is, e with
      | [i₁, j₁], e =>
        obtain ⟨es, q, p, rfl, hn⟩ := ht
        refine for_loop (n := n) hb hA D.turns D.live (fun i _ ρ => bd1 xs[i]? fun m => some (setAt (setAt ρ i₁ (some (.int (.ofNat i)))) j₁ (some m))) ?_ (fun i ρ σ => forE (cb (k.still f)) i₁ j₁ (xs.drop i) i ρ σ) ?_ ?_ S₀ D.st D.nft D.ali e fin
        · intro i v u ρ σ ρ₁ s' K E hP S e G
          obtain ⟨T, tk, y, m, rfl, hT, hm, r⟩ := D.item i v _ hP
          simp only [hm] at e
          obtain ⟨_, e0, e⟩ := bd1_some.mp e
          cases e0
          cases e
          obtain ⟨f1, f2, f3⟩ := hn.each (env := env)
          refine wpAny_assign_Tuple (items := #[.int i tk, y]) hA.handled hT (by rw [f2]; rfl) f3 fun h' x' => ?_
          rw [f1]
          have z := HExt.but x' (get?_size _)
          refine inOrder (s := { s' with heap := h' }) hn (ms := [.int (.ofNat i), m]) (ρ' := setAt (setAt ρ i₁ (some (MV.int (Int.ofNat i)))) j₁ (some m)) ⟨⟨_, rfl⟩, r.mono, trivial⟩ (by simp only [setMany, setK_eq]) (S.ext z) fun h'' tk x₂ S₂ => ?_
          exact G h'' tk ((Stp.ext z).trans x₂) S₂
        · intro ρ σ
          show forE _ _ _ (xs.drop xs.length) _ _ _ = _
          rw [List.drop_length]; rfl
        · intro i ρ σ hi
          obtain ⟨x, e1, e2⟩ := drop_at (xs := xs) hi
          simp only [e1, e2]
          show frN i (fun n => setK ρ i₁ (some (.int (.ofNat n))) fun ρ => setK ρ j₁ (some x) fun ρ => turnOn (cb (k.still f) ρ σ) (forE (cb (k.still f)) i₁ j₁ (xs.drop (i + 1)) (Nat.add n 1))) = _
          rw [frN_eq, setK_eq, setK_eq]
          rfl
      | [], e => cases e
      | [_], e => cases e
      | _ :: _ :: _ :: _, e => cases e
theorem SS_for {target iter : Expr} {body : List Stmt} {p : Pos} {t : MT} {ci : CI} {cb : CS} (ht : Tgt nm t target) (hi : SI prog w hB C n nm target iter ci) (hb : SB prog w hB C n nm body cb)
    (hs : ∀ env x, foldedSetIterable iter env x = pure x) : SS prog w hB C n nm (.For target iter body [] p) (sFor t ci cb) := by
  intro A env own k φ ρ σ s mf ρ' σ' hA S e Q E G
  obtain ⟨its, σ₁, e1, e⟩ := bnd_some.mp e
  refine wpAny_For (hi A env own k φ ρ σ s its σ₁ hA S e1 _ E fun I φ₁ h₁ h₂ tk fp wr P Md St x₁ D => ?_) (hs env)
  exact loop_its hb hA ht D e fun f φ' h' tk x S' r => (G.from x₁ (tk := tk)) f φ' h' tk x S' r
end
end Mine
end

section
namespace Mine
open PySem PyProof.Rows

section
variable (prog : Program) (w : World) (hB : Heap) (C : Addr) (n : Nat) (nm : List (Str × NameKind))
/-- arguments -/
def SEs : List Expr → List CE → Prop
  | [], [] => True
  | e :: es, c :: cs => SE prog w hB C n nm e c ∧ SEs es cs
  | _, _ => False
/-- what a frame finds at the top and among the built-ins -/
structure Glb (mg mb : Str → Option Value) : Prop where
  g : hB.Ns mainGlobals mg
  b : hB.Ns builtinsNs mb
  nolimit : hB.NoLimit
def F1OK (bv : Value) (f : Hp → MV → RE) : Prop :=
  ∀ (A : Around) (env : Env) (nm : List (Str × NameKind)) (own : List Addr) (k : Kx) (φ : List Addr) (ρ : Lo) (σ : Hp) (s : Shared) (a mv : MV) (va : Value) (σ' : Hp),
    AOK n A → Stt hB C env nm own k φ ρ σ s.heap → VR φ va a → f σ a = some (mv, σ') → ∀ Q E, Gv hB C env nm own k φ ρ σ' mv s Q → wpAny (model prog w) A (call bv [va]) Q E s
def F2OK (bv : Value) (f : Hp → MV → MV → RE) : Prop :=
  ∀ (A : Around) (env : Env) (nm : List (Str × NameKind)) (own : List Addr) (k : Kx) (φ : List Addr) (ρ : Lo) (σ : Hp) (s : Shared) (a b mv : MV) (va vb : Value) (σ' : Hp),
    AOK n A → Stt hB C env nm own k φ ρ σ s.heap → VR φ va a → VR φ vb b → f σ a b = some (mv, σ') → ∀ Q E, Gv hB C env nm own k φ ρ σ' mv s Q → wpAny (model prog w) A (call bv [va, vb]) Q E s
/-- the global name x of the frame is the built-in bv -/
structure Bi (mg mb : Str → Option Value) (x : Str) (bv : Value) : Prop where
  at_ : ∃ i : Nat, nm[i]? = some (x, .globalImplicit)
  miss : mg x = none
  bv_ : mb x = some bv
  db : (x == ("__debug__" : Str)) = false
end

section
variable {prog : Program} {w : World} {hB : Heap} {C : Addr} {n : Nat} {nm : List (Str × NameKind)} {mg mb : Str → Option Value}
theorem args_any {A : Around} {env : Env} {own : List Addr} {k : Kx} {ρ : Lo} (hA : AOK n A) {Q : List Value → Shared → Prop} {E : Value → Shared → Prop} : ∀ {es : List Expr} {cs : List CE}, SEs prog w hB C n nm es cs →
    ∀ {φ : List Addr} {σ : Hp} {s : Shared} {ms : List MV} {σ' : Hp}, Stt hB C env nm own k φ ρ σ s.heap → evs cs k ρ σ = some (ms, σ') →
    (∀ vs φ' h' tk, Stp (Ft k own φ) φ s.heap φ' h' → Stt hB C env nm own k φ' ρ σ' h' → VRs φ' vs ms → Q vs { s with heap := h', toks := tk }) →
    wpAny (model prog w) A (spliced (es.map fun e => (false, eval e env))) Q E s
  | [], [], _, φ, σ, s, ms, σ', S, e, G => by cases e; exact Calls.spliced_nil (G [] φ s.heap s.toks .refl S trivial)
  | x :: es, c :: cs, h, φ, σ, s, ms, σ', S, e, G => by
    have e : bnd (c k ρ σ) (fun v σ => bnd (evs cs k ρ σ) fun vs σ => some (v :: vs, σ)) = some (ms, σ') := e
    obtain ⟨a, σ₁, e1, e⟩ := bnd_some.mp e
    obtain ⟨b, σ₂, e2, e⟩ := bnd_some.mp e
    cases e
    refine Calls.spliced_cons (h.1 A env own k φ ρ σ s a σ₁ hA S e1 _ E fun va φ₁ h₁ tk₁ x₁ S₁ r₁ => ?_)
    refine args_any hA (Q := fun vs s₂ => Q (va :: vs) s₂) h.2 (s := { s with heap := h₁, toks := tk₁ }) S₁ e2 fun vs φ₂ h₂ tk₂ x₂ S₂ r₂ => ?_
    exact G _ φ₂ h₂ tk₂ (x₁.trans x₂) S₂ ⟨r₁.later x₂, r₂⟩
  | [], _ :: _, h, _, _, _, _, _, _, _, _ => h.elim
  | _ :: _, [], h, _, _, _, _, _, _, _, _ => h.elim
theorem evs_length {k : Kx} {ρ : Lo} : ∀ {es : List Expr} {cs : List CE}, SEs prog w hB C n nm es cs → ∀ {σ ms σ'}, evs cs k ρ σ = some (ms, σ') → ms.length = es.length
  | [], [], _, σ, ms, σ', e => by cases e; rfl
  | x :: es, c :: cs, h, σ, ms, σ', e => by
    have e : bnd (c k ρ σ) (fun v σ => bnd (evs cs k ρ σ) fun vs σ => some (v :: vs, σ)) = some (ms, σ') := e
    obtain ⟨a, σ₁, e1, e⟩ := bnd_some.mp e
    obtain ⟨b, σ₂, e2, e⟩ := bnd_some.mp e
    cases e
    simp [evs_length h.2 e2]
  | [], _ :: _, h, _, _, _, _ => h.elim
  | _ :: _, [], h, _, _, _, _ => h.elim
theorem SE_lst {es : List Expr} {cs : List CE} {p : Pos} (h : SEs prog w hB C n nm es cs) (ht : ∀ env, backTo p (starEach es env) = es.map fun e => (false, eval e env)) (hl : es.length ≤ 100) : SE prog w hB C n nm (.List es p) (cLst cs) := by
  intro A env own k φ ρ σ s mv σ' hA S e Q E G
  obtain ⟨ms, σ₁, e1, e⟩ := bnd_some.mp e
  obtain ⟨rfl, rfl⟩ := new_some e
  refine wpAny_List (by
    rw [ht]
    refine args_any hA h S e1 fun vs φ₁ h₁ tk₁ x₁ S₁ r₁ => ?_
    have hv : vs.length ≤ 100 := by
      rw [r₁.length, evs_length h e1]; exact hl
    refine ⟨Nat.le_trans hv (by decide), ?_⟩
    exact Gv.made (s := { s with heap := h₁, toks := tk₁ }) S₁ (G.from x₁) ⟨vs, 0, rfl, r₁, by omega⟩ rfl)
theorem SE_tup {es : List Expr} {cs : List CE} {q : Nat} {p : Pos} (h : SEs prog w hB C n nm es cs) (ht : ∀ env, backTo p (starEach es env) = es.map fun e => (false, eval e env)) (hl : es.length ≤ 100) : SE prog w hB C n nm (.Tuple es q p) (cTup cs) := by
  intro A env own k φ ρ σ s mv σ' hA S e Q E G
  obtain ⟨ms, σ₁, e1, e⟩ := bnd_some.mp e
  obtain ⟨rfl, rfl⟩ := new_some e
  refine wpAny_Tuple (by
    rw [ht]
    refine args_any hA h S e1 fun vs φ₁ h₁ tk₁ x₁ S₁ r₁ => ?_
    have hv : vs.length ≤ 100 := by
      rw [r₁.length, evs_length h e1]; exact hl
    refine ⟨Nat.le_trans hv (by decide), ?_⟩
    exact Gv.made (s := { s with heap := h₁, toks := tk₁ }) S₁ (G.from x₁) ⟨vs, rfl, r₁⟩ rfl)
theorem name_bi {A : Around} {env : Env} {own : List Addr} {k : Kx} {φ : List Addr} {ρ : Lo} {σ : Hp} {s : Shared} {x : Str} {bv : Value} {p : Pos} {Q : Value → Shared → Prop} {E : Value → Shared → Prop} (Gl : Glb hB mg mb) (B : Bi nm mg mb x bv)
    (S : Stt hB C env nm own k φ ρ σ s.heap) (h : Q bv s) : wpAny (model prog w) A (eval (.Name x p) env) Q E s := by
  obtain ⟨i, e⟩ := B.at_
  refine Calls.Name_function_global S.kind ((S.names i x _ e).resolve_right fun q => nomatch q.1) (Calls.loadGlobal_builtin (mg := mg) (mb := mb) ?_ B.miss ?_ B.bv_ h) B.db
  · rw [S.glob]; exact Gl.g.keeps S.base
  · rw [S.blt]; exact Gl.b.keeps S.base
/-- a built-in that is called -/
def Callee (bv : Value) : Prop := (∃ id, bv = .builtin id) ∨ ∃ T, bv = .type T
theorem callWith_bi {A : Around} {bv : Value} {p : Pos} {t : Sem Value} {ts : List (Bool × Sem Value)} {s : Shared} {Q : Value → Shared → Prop} {E : Value → Shared → Prop} (hc : Callee bv) (hp : ts.any (·.1) = false)
    (h : wpAny (model prog w) A (spliced ((false, t) :: ts)) (fun vs s₁ => wpAny (model prog w) A (call bv vs) Q E s₁) E s) : wpAny (model prog w) A (callWith p bv [] ((false, t) :: ts) []) Q E s := by
  rcases hc with ⟨id, rfl⟩ | ⟨T, rfl⟩
  · exact Calls.callWith_builtin (by simpa using hp) (Calls.evalArgs_plain h)
  · exact PyProof.Rows.callWith_type (by simpa using hp) (Calls.evalArgs_plain h)
theorem SE_b1 {x : Str} {bv : Value} {np p : Pos} {a : Expr} {ca : CE} {f : Hp → MV → RE} (Gl : Glb hB mg mb) (B : Bi nm mg mb x bv) (hc : Callee bv) (hf : F1OK prog w hB C n bv f) (ha : SE prog w hB C n nm a ca)
    (ht : ∀ env, backTo p (starEach [a] env) = [(false, eval a env)]) : SE prog w hB C n nm (.Call (.Name x np) [a] [] p) (cB1 f ca) := by
  intro A env own k φ ρ σ s mv σ' hA S e Q E G
  obtain ⟨b, σ₁, e1, e⟩ := bnd_some.mp e
  refine Call_Name (ht env) (name_bi Gl B S (callWith_bi hc rfl (Calls.spliced_cons (ha A env own k φ ρ σ s b σ₁ hA S e1 _ E fun va φ₁ h₁ tk₁ x₁ S₁ r₁ => Calls.spliced_nil ?_))))
  exact hf A env nm own k φ₁ ρ σ₁ _ b mv va σ' hA S₁ r₁ e Q E (G.from x₁)
theorem SE_b2 {x : Str} {bv : Value} {np p : Pos} {a a' : Expr} {ca ca' : CE} {f : Hp → MV → MV → RE} (Gl : Glb hB mg mb) (B : Bi nm mg mb x bv) (hc : Callee bv) (hf : F2OK prog w hB C n bv f) (ha : SE prog w hB C n nm a ca) (ha' : SE prog w hB C n nm a' ca')
    (ht : ∀ env, backTo p (starEach [a, a'] env) = [(false, eval a env), (false, eval a' env)]) : SE prog w hB C n nm (.Call (.Name x np) [a, a'] [] p) (cB2 f ca ca') := by
  intro A env own k φ ρ σ s mv σ' hA S e Q E G
  obtain ⟨b, σ₁, e1, e⟩ := bnd_some.mp e
  obtain ⟨c, σ₂, e2, e⟩ := bnd_some.mp e
  refine Call_Name (ht env) (name_bi Gl B S (callWith_bi hc rfl (Calls.spliced_cons (ha A env own k φ ρ σ s b σ₁ hA S e1 _ E fun va φ₁ h₁ tk₁ x₁ S₁ r₁ => Calls.spliced_cons ?_))))
  refine ha' A env own k φ₁ ρ σ₁ _ c σ₂ hA S₁ e2 _ E fun vb φ₂ h₂ tk₂ x₂ S₂ r₂ => Calls.spliced_nil ?_
  exact hf A env nm own k φ₂ ρ σ₂ _ b c mv va vb σ' hA S₂ (r₁.later x₂) r₂ e Q E ((G.from x₁).from x₂)
end
end Mine
end

section
namespace Mine
open PySem PyProof.Rows

section
variable {prog : Program} {w : World} {hB : Heap} {C : Addr} {n : Nat} {nm : List (Str × NameKind)} {mg mb : Str → Option Value}
theorem letGo_obj {A : Around} {s : Shared} {E : Value → Shared → Prop} {target : Expr} {I : Addr} {v : Value} {Q : Unit → Shared → Prop} {o : Obj} {T : String} {vs : Array Value} (ho : s.heap.get? I = some o) (hc : o.cls = .type T) (hd : o.data = .fields vs)
    (hT : ["enumerate", "zip", "dict_itemiterator", "dict_reverseitemiterator", "odict_iterator", "itertools.zip_longest", "itertools.pairwise"].contains T = false) (h : Q () s) : wpAny (model prog w) A (letOwnedTupleGo target (.ref I) v) Q E s := by
  have key : ∀ a, wpAny (model prog w) A (do
      let o ← load I
      match o.cls, o.data with
      | .type n, .fields vs => if (["enumerate", "zip", "dict_itemiterator", "dict_reverseitemiterator", "odict_iterator", "itertools.zip_longest", "itertools.pairwise"].contains n && vs[0]? == some (rawInt a)) = true then (do rule "for.unpacks-the-owned-tuple"; updateField I 0 .none) else pure ()
      | _, _ => pure () : Sem Unit) Q E s := fun a => by
    refine wpAny_bind (wpAny_load ho ?_)
    rw [hc, hd]
    simp only [hT, Bool.false_and, Bool.false_eq_true, if_false]
    exact wpAny_pure h
  unfold letOwnedTupleGo
  cases target <;> first
    | exact wpAny_pure h
    | (cases v <;> first
        | exact wpAny_pure h
        | exact key _)
theorem Alien.push {env : Env} {own : List Addr} {k : Kx} {φ : List Addr} {ρ : Lo} {σ : Hp} {h : Heap} (S : Stt hB C env nm own k φ ρ σ h) : Alien hB env own φ h.objs.size := S.fresh (get?_size h)
theorem phi_ne {env : Env} {own : List Addr} {k : Kx} {φ : List Addr} {ρ : Lo} {σ : Hp} {h : Heap} (S : Stt hB C env nm own k φ ρ σ h) {i : Nat} {a : Addr} (e : φ[i]? = some a) : a ≠ h.objs.size := fun q => by
  obtain ⟨o, x⟩ := S.plt e
  rw [q, get?_size] at x
  cases x
theorem frozen_not {env : Env} {own : List Addr} {k : Kx} {φ : List Addr} {ρ : Lo} {σ : Hp} {h : Heap} (S : Stt hB C env nm own k φ ρ σ h) {j : Nat} {a : Addr} (e : φ[j]? = some a) : ¬ Ft (k.still (some j)) own φ a := fun q => by
  rcases q with q | ⟨i, hi, e'⟩
  · exact S.pne q e rfl
  · have hlt := (List.getElem?_eq_some_iff.mp e').1
    have := (List.getElem?_inj hlt (List.nodup_append.mp S.nd).2.1).mp (e'.trans e.symm)
    rw [this, still_not] at hi
    cases hi
/-- a list taken -/
theorem take_list {A : Around} {env : Env} {own : List Addr} {k : Kx} {φ : List Addr} {ρ : Lo} {σ : Hp} {s : Shared} {target : Expr} {j : Nat} {a : Addr} {vs : List Value} {xs : List MV} {Q : Value → Shared → Prop} {E : Value → Shared → Prop}
    (hA : AOK n A) (S : Stt hB C env nm own k φ ρ σ s.heap) (ea : φ[j]? = some a) (hl : s.heap.IsList a vs.toArray) (r : VRs φ vs xs)
    (h : ∀ I h' tk fp wr P Md St, Itd prog w hB C A env nm own k φ ρ σ target (.plain (some j) xs) s.heap h' I fp wr P Md St → Q (.ref I) { s with heap := h', toks := tk }) : wpAny (model prog w) A (pyIter (.ref a)) Q E s := by
  have hne := phi_ne S ea
  refine wpAny_pyIter_list hl ?_
  refine h s.heap.objs.size _ s.toks [s.heap.objs.size, a] [s.heap.objs.size] _ _ _ {
    turns := by
      have W := W.KTurns.ofWalks (target := target) (Walks.list (prog := prog) (w := w) hA.handled s.heap.objs.size a hne vs.toArray) fun i v s Q E st q => letGo_listiter st.1 q
      have e : vs.toArray.size = xs.length := by rw [← r.length]; simp
      rw [e] at W
      exact W
    live := fun i h st b hb => by
      rcases List.mem_cons.mp hb with rfl | hb
      · obtain ⟨o, e, _⟩ := st.1; exact ⟨o, e⟩
      · rw [List.mem_singleton.mp hb]; obtain ⟨o, e, _⟩ := st.2; exact ⟨o, e⟩
    self := fun s' Q E st q => (Walks.list (prog := prog) (w := w) hA.handled s.heap.objs.size a hne vs.toArray).self 0 s' Q E st q
    stt := S.ext (HExt.push)
    st := (⟨⟨_, Heap.get?_push_size _ rfl, rfl, rfl⟩, hl.push _⟩ : Heap.IsListIter (s.heap.push { cls := .type "list_iterator", data := .fields #[.ref a, .int 0 0] }) s.heap.objs.size a 0 ∧ Heap.IsList (s.heap.push { cls := .type "list_iterator", data := .fields #[.ref a, .int 0 0] }) a vs.toArray)
    nft := fun b hb => by
      rcases List.mem_cons.mp hb with rfl | hb
      · exact (Alien.push S).notFt
      · rw [List.mem_singleton.mp hb]; exact frozen_not S ea
    ali := fun b hb => by rw [List.mem_singleton.mp hb]; exact Alien.push S
    item := fun i v h' hP => by
      have hP : vs[i]? = some v := by simpa using hP
      have hi : i < xs.length := by rw [← r.length]; exact (List.getElem?_eq_some_iff.mp hP).1
      obtain ⟨v', e, q⟩ := r.get (i := i) (m := xs[i]) (by simp [hi])
      rw [hP] at e
      cases e
      exact ⟨xs[i], by simp [hi], q⟩
    ext := HExt.push
    fresh := fun b hb => by rw [List.mem_singleton.mp hb]; exact get?_size _ }
theorem take_tuple {A : Around} {env : Env} {own : List Addr} {k : Kx} {φ : List Addr} {ρ : Lo} {σ : Hp} {s : Shared} {target : Expr} {j : Nat} {a : Addr} {vs : List Value} {xs : List MV} {Q : Value → Shared → Prop} {E : Value → Shared → Prop}
    (hA : AOK n A) (S : Stt hB C env nm own k φ ρ σ s.heap) (ea : φ[j]? = some a) (hl : s.heap.IsTuple a vs.toArray) (r : VRs φ vs xs)
    (h : ∀ I h' tk fp wr P Md St, Itd prog w hB C A env nm own k φ ρ σ target (.plain (some j) xs) s.heap h' I fp wr P Md St → Q (.ref I) { s with heap := h', toks := tk }) : wpAny (model prog w) A (pyIter (.ref a)) Q E s := by
  have hne := phi_ne S ea
  refine wpAny_pyIter_tuple hl ?_
  refine h s.heap.objs.size _ s.toks [s.heap.objs.size, a] [s.heap.objs.size] _ _ _ {
    turns := by
      have W := W.KTurns.ofWalks (target := target) (Walks.tuple (prog := prog) (w := w) hA.handled s.heap.objs.size a hne vs.toArray) fun i v s Q E st q => letGo_tupleiter st.1 q
      have e : vs.toArray.size = xs.length := by rw [← r.length]; simp
      rw [e] at W
      exact W
    live := fun i h st b hb => by
      rcases List.mem_cons.mp hb with rfl | hb
      · obtain ⟨o, e, _⟩ := st.1; exact ⟨o, e⟩
      · rw [List.mem_singleton.mp hb]; obtain ⟨o, e, _⟩ := st.2; exact ⟨o, e⟩
    self := fun s' Q E st q => (Walks.tuple (prog := prog) (w := w) hA.handled s.heap.objs.size a hne vs.toArray).self 0 s' Q E st q
    stt := S.ext (HExt.push)
    st := (⟨⟨_, Heap.get?_push_size _ rfl, rfl, rfl⟩, hl.at fun _ e => Heap.get?_push_of_some _ e⟩ : Heap.IsTupleIter (s.heap.push { cls := .type "tuple_iterator", data := .fields #[.ref a, .int 0 0] }) s.heap.objs.size a 0 ∧ Heap.IsTuple (s.heap.push { cls := .type "tuple_iterator", data := .fields #[.ref a, .int 0 0] }) a vs.toArray)
    nft := fun b hb => by
      rcases List.mem_cons.mp hb with rfl | hb
      · exact (Alien.push S).notFt
      · rw [List.mem_singleton.mp hb]; exact frozen_not S ea
    ali := fun b hb => by rw [List.mem_singleton.mp hb]; exact Alien.push S
    item := fun i v h' hP => by
      have hP : vs[i]? = some v := by simpa using hP
      have hi : i < xs.length := by rw [← r.length]; exact (List.getElem?_eq_some_iff.mp hP).1
      obtain ⟨v', e, q⟩ := r.get (i := i) (m := xs[i]) (by simp [hi])
      rw [hP] at e
      cases e
      exact ⟨xs[i], by simp [hi], q⟩
    ext := HExt.push
    fresh := fun b hb => by rw [List.mem_singleton.mp hb]; exact get?_size _ }
/-- what a fresh iterator alone bears -/
theorem take_own {A : Around} {env : Env} {own : List Addr} {k : Kx} {φ : List Addr} {ρ : Lo} {σ : Hp} {s : Shared} {target : Expr} {xs : List MV} {o : Obj} {P : Nat → Value → Prop} {St : Nat → Heap → Prop}
    (S : Stt hB C env nm own k φ ρ σ s.heap) (Wk : Walks prog w A s.heap.objs.size [s.heap.objs.size] [s.heap.objs.size] xs.length P St)
    (hst : ∀ i h, St i h → ∃ o T vs, h.get? s.heap.objs.size = some o ∧ o.cls = .type T ∧ o.data = .fields vs ∧ ["enumerate", "zip", "dict_itemiterator", "dict_reverseitemiterator", "odict_iterator", "itertools.zip_longest", "itertools.pairwise"].contains T = false)
    (h0 : St 0 (s.heap.push o)) (hP : ∀ i v, P i v → ∃ m, xs[i]? = some m ∧ VR φ v m) :
    Itd prog w hB C A env nm own k φ ρ σ target (.plain none xs) s.heap (s.heap.push o) s.heap.objs.size [s.heap.objs.size] [s.heap.objs.size] (fun i v _ => P i v) (fun i v h => P i v ∧ St (i + 1) h) St where
  turns := W.KTurns.ofWalks Wk fun i v s Q E st q => by
    obtain ⟨o, T, vs, e, hc, hd, hT⟩ := hst _ _ st
    exact letGo_obj e hc hd hT q
  live := fun i h st b hb => by rw [List.mem_singleton.mp hb]; obtain ⟨o, T, vs, e, _⟩ := hst _ _ st; exact ⟨o, e⟩
  self := fun s' Q E st q => Wk.self 0 s' Q E st q
  stt := S.ext (HExt.push)
  st := h0
  nft := fun b hb => by rw [List.mem_singleton.mp hb]; exact (Alien.push S).notFt
  ali := fun b hb => by rw [List.mem_singleton.mp hb]; exact Alien.push S
  item := fun i v h' q => hP i v q
  ext := HExt.push
  fresh := fun b hb => by rw [List.mem_singleton.mp hb]; exact get?_size _
theorem take_str {A : Around} {env : Env} {own : List Addr} {k : Kx} {φ : List Addr} {ρ : Lo} {σ : Hp} {s : Shared} {target : Expr} {l : List Nat} {t : Tok} {Q : Value → Shared → Prop} {E : Value → Shared → Prop}
    (hA : AOK n A) (S : Stt hB C env nm own k φ ρ σ s.heap)
    (h : ∀ I h' tk fp wr P Md St, Itd prog w hB C A env nm own k φ ρ σ target (.plain none (l.map fun c => .str [c])) s.heap h' I fp wr P Md St → Q (.ref I) { s with heap := h', toks := tk }) : wpAny (model prog w) A (pyIter (.str ⟨l.toArray⟩ t)) Q E s := by
  have hz : (⟨l.toArray⟩ : Str).cps.size = (l.map fun c => MV.str [c]).length := by simp
  have hP : ∀ i v, SignAt ⟨l.toArray⟩ i v → ∃ m, (l.map fun c => MV.str [c])[i]? = some m ∧ VR φ v m := by
    rintro i v ⟨c, u, e, rfl⟩
    have e : l[i]? = some c := by simpa using e
    exact ⟨.str [c], by simp [e], u, rfl⟩
  cases ha : (⟨l.toArray⟩ : Str).cps.all (· < 128)
  · refine wpAny_pyIter_wide ha (h _ _ s.toks _ _ _ _ _ (take_own S (hz ▸ Walks.strWide hA.handled s.heap.objs.size ⟨l.toArray⟩ t) ?_ ⟨_, Heap.get?_push_size _ rfl, rfl, rfl⟩ hP))
    rintro i h ⟨o, e, hc, hd⟩
    exact ⟨o, _, _, e, hc, hd, by decide⟩
  · refine wpAny_pyIter_ascii ha (h _ _ s.toks _ _ _ _ _ (take_own S (hz ▸ Walks.strAscii hA.handled s.heap.objs.size ⟨l.toArray⟩ t) ?_ ⟨_, Heap.get?_push_size _ rfl, rfl, rfl⟩ hP))
    rintro i h ⟨o, e, hc, hd⟩
    exact ⟨o, _, _, e, hc, hd, by decide⟩
end
end Mine
end

section
namespace Mine
open PySem PyProof.Rows

theorem upto_succ (b c : Int) (n : Nat) (a : Int) : upto b c (n + 1) a = if a < b then .int a :: upto b c n (a + c) else [] := by
  show cnd (W.Z.ltB a b) (.int a :: frI (a + c) (upto b c n)) [] = _
  rw [cnd_eq, frI_eq]
  split
  · rename_i h; rw [if_pos ((W.Z.ltB_iff _ _).mp h)]
  · rename_i h; rw [if_neg (fun q => h ((W.Z.ltB_iff _ _).mpr q))]
theorem rangeSize_step {a b c : Int} (hc : 0 < c) (h : a < b) : Builtin.Range.rangeSize a b c = Builtin.Range.rangeSize (a + c) b c + 1 := by
  unfold Builtin.Range.rangeSize
  rw [if_pos (show c > 0 from hc), if_pos (show c > 0 from hc), if_pos h]
  split
  · rename_i q
    have : b - a - 1 = (b - (a + c) - 1) + 1 * c := by omega
    rw [this, Int.add_mul_ediv_right _ _ (by omega)]
  · rw [Int.ediv_eq_zero_of_lt (by omega) (by omega)]
theorem upto_spec {b c : Int} (hc : 0 < c) : ∀ (n : Nat) (a : Int), (b - a).toNat ≤ n → (upto b c n a).length = (Builtin.Range.rangeSize a b c).toNat ∧ ∀ i, i < (upto b c n a).length → (upto b c n a)[i]? = some (.int (a + i * c))
  | 0, a, h => by
    have : ¬ a < b := by omega
    refine ⟨?_, fun i hi => absurd hi (Nat.not_lt_zero _)⟩
    unfold Builtin.Range.rangeSize
    rw [if_pos (show c > 0 from hc), if_neg this]; rfl
  | n + 1, a, h => by
    rw [upto_succ]
    split
    · rename_i q
      obtain ⟨h1, h2⟩ := upto_spec (b := b) hc n (a + c) (by omega)
      have h0 : 0 ≤ Builtin.Range.rangeSize (a + c) b c := by
        unfold Builtin.Range.rangeSize
        rw [if_pos (show c > 0 from hc)]
        split
        · have := Int.ediv_nonneg (a := b - (a + c) - 1) (b := c) (by omega) (by omega); omega
        · exact Int.le_refl _
      refine ⟨?_, fun i hi => ?_⟩
      · rw [List.length_cons, h1, rangeSize_step hc q]; omega
      · cases i with
        | zero => simp
        | succ i =>
          rw [List.getElem?_cons_succ, h2 i (by simpa using hi)]
          congr 2
          rw [show ((i + 1 : Nat) : Int) = (i : Int) + 1 from rfl, Int.add_mul, Int.one_mul]; omega
    · rename_i q
      refine ⟨?_, fun i hi => absurd hi (Nat.not_lt_zero _)⟩
      unfold Builtin.Range.rangeSize
      rw [if_pos (show c > 0 from hc), if_neg q]; rfl
theorem fits_long {i : Int} (h1 : -4294967296 ≤ i) (h2 : i ≤ 4294967296) : Builtin.Range.rangeFitsLong i = true := by
  unfold Builtin.Range.rangeFitsLong
  rw [Bool.and_eq_true, decide_eq_true_eq, decide_eq_true_eq]
  exact ⟨Int.le_trans (by decide) h1, Int.lt_of_le_of_lt h2 (by decide)⟩
theorem range_small {a b c : Int} (hc : 0 < c) (ha : small a = true) (hb : small b = true) (hcs : small c = true) : Builtin.Range.small a b c = true ∧ 0 ≤ Builtin.Range.rangeSize a b c := by
  have ha := small_lt ha
  have hb := small_lt hb
  have hcs := small_lt hcs
  have h0 : 0 ≤ Builtin.Range.rangeSize a b c ∧ Builtin.Range.rangeSize a b c ≤ 4294967296 := by
    unfold Builtin.Range.rangeSize
    rw [if_pos (show c > 0 from hc)]
    split
    · rename_i hab
      have h0 : 0 ≤ b - a - 1 := Int.sub_nonneg_of_le (Int.lt_iff_add_one_le.mp (Int.sub_pos_of_lt hab))
      have h1 := Int.ediv_nonneg h0 (Int.le_of_lt hc)
      have h2 := Int.ediv_le_self c h0
      exact ⟨Int.le_add_one h1, by omega⟩
    · exact ⟨Int.le_refl _, by decide⟩
  refine ⟨?_, h0.1⟩
  unfold Builtin.Range.small
  rw [fits_long (i := a) (by omega) (by omega), fits_long (i := b) (by omega) (by omega), fits_long (i := c) (by omega) (by omega), fits_long (Int.le_trans (by decide) h0.1) h0.2, if_pos (show c > 0 from hc), fits_long (i := b + (c - 1)) (by omega) (by omega), Bool.or_true]
  rfl

section
variable {prog : Program} {w : World} {hB : Heap} {C : Addr} {n : Nat} {nm : List (Str × NameKind)} {mg mb : Str → Option Value}
theorem Walks_lt {A : Around} {I : Addr} {fp wr : List Addr} {N : Nat} {P : Nat → Value → Prop} {St : Nat → Heap → Prop} (W : Walks prog w A I fp wr N P St) : Walks prog w A I fp wr N (fun i v => i < N ∧ P i v) St where
  sub := W.sub
  frame := W.frame
  item := fun i s Q E hi st hQ => W.item i s Q E hi st fun v h' tk hP st' hk => hQ v h' tk ⟨hi, hP⟩ st' hk
  done := W.done
  self := W.self
theorem take_range {A : Around} {env : Env} {own : List Addr} {k : Kx} {φ : List Addr} {ρ : Lo} {σ : Hp} {s : Shared} {target : Expr} {r : Addr} {a b c : Int} {t u v : Tok} {Q : Value → Shared → Prop} {E : Value → Shared → Prop}
    (hA : AOK n A) (S : Stt hB C env nm own k φ ρ σ s.heap) (hr : IsRange s.heap r a b c t u v) (hc : 0 < c) (ha : small a = true) (hb : small b = true) (hcs : small c = true)
    (h : ∀ I h' tk fp wr P Md St, Itd prog w hB C A env nm own k φ ρ σ target (.plain none (rangeL a b c)) s.heap h' I fp wr P Md St → Q (.ref I) { s with heap := h', toks := tk }) : wpAny (model prog w) A (pyIter (.ref r)) Q E s := by
  obtain ⟨h1, h2⟩ := range_small hc ha hb hcs
  refine wpAny_pyIter_range hr h1 ?_
  obtain ⟨h3, h4⟩ := upto_spec (b := b) hc (b - a).toNat a (Nat.le_refl _)
  have hl : (rangeL a b c).length = (Builtin.Range.rangeSize a b c).toNat := h3
  refine h _ _ s.toks _ _ _ _ _ (take_own S (Walks_lt (Walks.range hA.handled s.heap.objs.size a c (rangeL a b c).length)) ?_ ?_ ?_)
  · intro i h hit
    exact ⟨_, _, _, hit, rfl, rfl, by decide⟩
  · show IsRangeIter _ _ _ _ _
    rw [hl]
    have e : ((Builtin.Range.rangeSize a b c).toNat : Int) - ((0 : Nat) : Int) = Builtin.Range.rangeSize a b c := by omega
    have e' : a + ((0 : Nat) : Int) * c = a := by simp
    rw [e, e']
    exact Heap.get?_push_size _ rfl
  · rintro i v ⟨q, t, rfl⟩
    exact ⟨_, h4 i q, _, rfl⟩

theorem itemsV_some {σ : Hp} {v : MV} {f : Option Nat} {xs : List MV} (e : itemsV σ v = some (f, xs)) :
    (∃ l, v = .str l ∧ f = none ∧ xs = l.map fun c => .str [c]) ∨ (∃ j, v = .ref j ∧ f = some j ∧ getO σ j = some (.list xs)) ∨ (∃ j, v = .ref j ∧ f = some j ∧ getO σ j = some (.tuple xs)) ∨
    ∃ j a b c, v = .ref j ∧ f = none ∧ getO σ j = some (.range a b c) ∧ xs = rangeL a b c ∧ 0 < c ∧ small a = true ∧ small b = true ∧ small c = true := by
  unfold itemsV at e
  split at e
  · rw [frVs_eq] at e; cases e; exact .inl ⟨_, rfl, rfl, rfl⟩
  · split at e
    · cases e; exact .inr (.inl ⟨_, rfl, rfl, by assumption⟩)
    · cases e; exact .inr (.inr (.inl ⟨_, rfl, rfl, by assumption⟩))
    · obtain ⟨h1, e⟩ := cnd_some.mp e
      obtain ⟨h2, e⟩ := cnd_some.mp e
      obtain ⟨h3, e⟩ := cnd_some.mp e
      obtain ⟨h4, e⟩ := cnd_some.mp e
      rw [frVs_eq] at e; cases e
      exact .inr (.inr (.inr ⟨_, _, _, _, rfl, rfl, by assumption, rfl, (W.Z.ltB_iff _ _).mp h1, h2, h3, h4⟩))
    · cases e
  · cases e
theorem Stt.range {env : Env} {own : List Addr} {k : Kx} {φ : List Addr} {ρ : Lo} {σ : Hp} {h : Heap} (S : Stt hB C env nm own k φ ρ σ h) {i : Nat} {a b c : Int} {v : Value} (e : getO σ i = some (.range a b c)) (r : VR φ v (.ref i)) :
    ∃ ad t u w, φ[i]? = some ad ∧ v = .ref ad ∧ IsRange h ad a b c t u w := by
  unfold getO at e
  rw [nth_eq] at e
  obtain ⟨a, o, e1, e2, t, u, w, rfl⟩ := S.obj i _ e
  obtain ⟨a', e', rfl⟩ := r
  rw [e1] at e'
  cases e'
  exact ⟨a, t, u, w, e1, rfl, e2⟩
/-- any value that can be iterated over -/
theorem take_any {A : Around} {env : Env} {own : List Addr} {k : Kx} {φ : List Addr} {ρ : Lo} {σ : Hp} {s : Shared} {target : Expr} {v : Value} {mv : MV} {f : Option Nat} {xs : List MV} {Q : Value → Shared → Prop} {E : Value → Shared → Prop}
    (hA : AOK n A) (S : Stt hB C env nm own k φ ρ σ s.heap) (r : VR φ v mv) (e : itemsV σ mv = some (f, xs))
    (h : ∀ I h' tk fp wr P Md St, Itd prog w hB C A env nm own k φ ρ σ target (.plain f xs) s.heap h' I fp wr P Md St → Q (.ref I) { s with heap := h', toks := tk }) : wpAny (model prog w) A (pyIter v) Q E s := by
  rcases itemsV_some e with ⟨l, rfl, rfl, rfl⟩ | ⟨j, rfl, rfl, e0⟩ | ⟨j, rfl, rfl, e0⟩ | ⟨j, a, b, c, rfl, rfl, e0, rfl, h1, h2, h3, h4⟩
  · obtain ⟨t, rfl⟩ := r
    exact take_str hA S h
  · obtain ⟨a, vs, m, e1, rfl, e2, rs, _⟩ := S.list e0 r
    exact take_list hA S e1 (SeqList e2) rs h
  · obtain ⟨a, vs, e1, rfl, e2, rs⟩ := S.tuple e0 r
    exact take_tuple hA S e1 ⟨_, e2, rfl, _, rfl⟩ rs h
  · obtain ⟨ad, t, u, w, _, rfl, hr⟩ := S.range e0 r
    exact take_range hA S hr h1 h2 h3 h4 h
theorem SI_e {target e : Expr} {c : CE} (he : SE prog w hB C n nm e c) : SI prog w hB C n nm target e (iE c) := by
  intro A env own k φ ρ σ s its σ' hA S ev Q E G
  obtain ⟨v, σ₁, e1, ev⟩ := bnd_some.mp ev
  obtain ⟨f, xs, e2, ev⟩ := bnd_some.mp ev
  cases ev
  refine he A env own k φ ρ σ s v _ hA S e1 _ E fun va φ₁ h₁ tk₁ x₁ S₁ r₁ => ?_
  exact take_any hA S₁ r₁ e2 fun I h' tk fp wr P Md St D => G I φ₁ h₁ h' tk fp wr P Md St x₁ D
theorem SI_range {target : Expr} {es : List Expr} {cs : List CE} {np p : Pos} (Gl : Glb hB mg mb) (B : Bi nm mg mb "range" (.type "range")) (h : SEs prog w hB C n nm es cs) (ht : ∀ env, backTo p (starEach es env) = es.map fun e => (false, eval e env)) :
    SI prog w hB C n nm target (.Call (.Name "range" np) es [] p) (iR cs) := by
  intro A env own k φ ρ σ s its σ' hA S ev Q E G
  obtain ⟨ms, σ₁, e1, ev⟩ := bnd_some.mp ev
  refine Call_Name (ht env) (name_bi Gl B S ?_)
  cases es with
  | nil =>
    cases cs with
    | nil => cases e1; cases ev
    | cons _ _ => exact h.elim
  | cons x es =>
    refine callWith_bi (.inr ⟨_, rfl⟩) (by simp) (args_any (es := x :: es) hA h S e1 fun vs φ₁ h₁ tk₁ x₁ S₁ r₁ => ?_)
    unfold rangeV at ev
    split at ev
    · rename_i b
      obtain ⟨g1, ev⟩ := cnd_some.mp ev
      rw [frVs_eq] at ev
      cases ev
      obtain ⟨v, rfl, t, rfl⟩ := VRs.one r₁
      · have y : HExt h₁ (h₁.push { cls := .type "range", data := .fields #[.int 0 tk₁, .int b t, .int 1 (tk₁ + 1)] }) := HExt.push
        refine call_range_1 (take_range (target := target) (s := ⟨h₁.push _, _, _, _, _⟩) hA (S₁.ext y) (IsRange.new ..) (by decide) (by decide) g1 (by decide) fun I h' tk fp wr P Md St D => ?_)
        exact G I φ₁ _ h' tk fp wr P Md St (x₁.trans (Stp.ext y)) D
    · rename_i a b
      obtain ⟨g1, ev⟩ := cnd_some.mp ev
      obtain ⟨g2, ev⟩ := cnd_some.mp ev
      rw [frVs_eq] at ev
      cases ev
      obtain ⟨v, v', rfl, ⟨t, rfl⟩, t', rfl⟩ := VRs.two r₁
      · have y : HExt h₁ (h₁.push { cls := .type "range", data := .fields #[.int a t, .int b t', .int 1 tk₁] }) := HExt.push
        refine call_range_2 (take_range (target := target) (s := ⟨h₁.push _, _, _, _, _⟩) hA (S₁.ext y) (IsRange.new ..) (by decide) g1 g2 (by decide) fun I h' tk fp wr P Md St D => ?_)
        exact G I φ₁ _ h' tk fp wr P Md St (x₁.trans (Stp.ext y)) D
    · rename_i a b c
      obtain ⟨g0, ev⟩ := cnd_some.mp ev
      obtain ⟨g1, ev⟩ := cnd_some.mp ev
      obtain ⟨g2, ev⟩ := cnd_some.mp ev
      obtain ⟨g3, ev⟩ := cnd_some.mp ev
      rw [frVs_eq] at ev
      cases ev
      have g0 := (W.Z.ltB_iff _ _).mp g0
      obtain ⟨v, v', v'', rfl, ⟨t, rfl⟩, ⟨t', rfl⟩, t'', rfl⟩ := VRs.three r₁
      · have y : HExt h₁ (h₁.push { cls := .type "range", data := .fields #[.int a t, .int b t', .int c t''] }) := HExt.push
        refine call_range_3 (by omega) (take_range (target := target) (s := ⟨h₁.push _, _, _, _, _⟩) hA (S₁.ext y) (IsRange.new ..) g0 g1 g2 g3 fun I h' tk fp wr P Md St D => ?_) (Or.inl (PyProof.noPylong_small (small_lt g3)))
        exact G I φ₁ _ h' tk fp wr P Md St (x₁.trans (Stp.ext y)) D
    · cases ev
/-- enumerate over a list -/
theorem SI_enum {es : List Expr} {q : Nat} {tp : Pos} {x : Expr} {c : CE} {np p : Pos} (Gl : Glb hB mg mb) (B : Bi nm mg mb "enumerate" (.type "enumerate")) (h : SE prog w hB C n nm x c) (ht : ∀ env, backTo p (starEach [x] env) = [(false, eval x env)]) :
    SI prog w hB C n nm (.Tuple es q tp) (.Call (.Name "enumerate" np) [x] [] p) (iN c) := by
  intro A env own k φ ρ σ s its σ' hA S ev Q E G
  obtain ⟨v, σ₁, e1, ev⟩ := bnd_some.mp ev
  obtain ⟨f, xs, e2, ev⟩ := bnd_some.mp ev
  refine Call_Name (ht env) (name_bi Gl B S ?_)
  refine callWith_bi (.inr ⟨_, rfl⟩) rfl (Calls.spliced_cons (h A env own k φ ρ σ s v σ₁ hA S e1 _ E fun va φ₁ h₁ tk₁ x₁ S₁ r₁ => Calls.spliced_nil ?_))
  cases ev
  unfold listV? at e2
  split at e2 <;> try (cases e2; done)
  split at e2 <;> try (cases e2; done)
  rename_i j' xs' e0
  cases e2
  ·
    obtain ⟨a, vs, m, ea, rfl, eo, rs, _⟩ := S₁.list e0 r₁
    have hne := phi_ne S₁ ea
    refine call_enumerate_list (s := ⟨h₁, _, _, _, _⟩) (SeqList eo) fun h' he hit hsz hk => wpAny_pyIter_enum he ?_
    have hn : h₁.objs.size ≠ h₁.objs.size + 1 := Nat.ne_of_lt (Nat.lt_succ_self _)
    have hx : HExt h₁ h' := hk
    have hlt : a < h₁.objs.size := Heap.lt_size eo
    have fr : h₁.get? (h₁.objs.size + 1) = none := by
      cases z : h₁.get? (h₁.objs.size + 1) with
      | none => rfl
      | some o => exact absurd (Heap.lt_size z) (Nat.not_lt.mpr (Nat.le_succ _))
    refine G _ φ₁ h₁ h' tk₁ [h₁.objs.size + 1, h₁.objs.size, a] [h₁.objs.size + 1, h₁.objs.size] _ _ _ x₁ {
      turns := by
        have Wk := W.KTurns.ofWalksU (elts := es) (k := q) (pos := tp) (WalksT.enumerate (prog := prog) (w := w) hA.handled (h₁.objs.size + 1) h₁.objs.size a (Ne.symm hn) (Nat.ne_of_lt (Nat.lt_succ_of_lt hlt)) hne vs.toArray).toU
        have e : vs.toArray.size = xs.length := by rw [← rs.length]; simp
        rw [e] at Wk
        exact Wk
      live := fun i h st b hb => by
        obtain ⟨⟨old, st1⟩, st2, st3⟩ := st
        rcases List.mem_cons.mp hb with rfl | hb
        · exact ⟨_, st1⟩
        · rcases List.mem_cons.mp hb with rfl | hb
          · obtain ⟨o, e, _⟩ := st2; exact ⟨o, e⟩
          · rw [List.mem_singleton.mp hb]; obtain ⟨o, e, _⟩ := st3; exact ⟨o, e⟩
      self := fun s' Q E st q => (WalksT.enumerate (prog := prog) (w := w) hA.handled (h₁.objs.size + 1) h₁.objs.size a (Ne.symm hn) (Nat.ne_of_lt (Nat.lt_succ_of_lt hlt)) hne vs.toArray).toU.self 0 s' Q E st q
      stt := S₁.ext hx
      st := (⟨⟨_, he⟩, hit, (SeqList eo).at fun o e => hx _ o e⟩ : (∃ old, IsEnum h' (h₁.objs.size + 1) h₁.objs.size 0 old) ∧ h'.IsListIter h₁.objs.size a 0 ∧ h'.IsList a vs.toArray)
      nft := fun b hb => by
        rcases List.mem_cons.mp hb with rfl | hb
        · exact (S₁.fresh fr).notFt
        · rcases List.mem_cons.mp hb with rfl | hb
          · exact (Alien.push S₁).notFt
          · rw [List.mem_singleton.mp hb]; exact frozen_not S₁ ea
      ali := fun b hb => by
        rcases List.mem_cons.mp hb with rfl | hb
        · exact S₁.fresh fr
        · rw [List.mem_singleton.mp hb]; exact Alien.push S₁
      item := fun i v h'' hP => by
        obtain ⟨T, vals, rfl, ⟨t, u, hu, rfl⟩, hT⟩ := hP
        have hu : vs[i]? = some u := by simpa using hu
        have hi : i < xs.length := by rw [← rs.length]; exact (List.getElem?_eq_some_iff.mp hu).1
        obtain ⟨v', e, z⟩ := rs.get (i := i) (m := xs[i]) (by simp [hi])
        rw [hu] at e
        cases e
        exact ⟨T, t, u, xs[i], rfl, hT, by simp [hi], z⟩
      ext := hx
      fresh := fun b hb => by
        rcases List.mem_cons.mp hb with rfl | hb
        · exact fr
        · rw [List.mem_singleton.mp hb]; exact get?_size _ }
end
end Mine
end

section
namespace Mine
open PySem PyProof.Rows

section
variable {prog : Program} {w : World} {hB : Heap} {C : Addr} {n : Nat} {nm : List (Str × NameKind)} {mg mb : Str → Option Value}
section
variable {env : Env} {own : List Addr} {k : Kx} {φ : List Addr} {ρ : Lo} {σ : Hp} {mv : MV} {s : Shared} {Q : Value → Shared → Prop}
theorem Gv.ext {h' : Heap} {tk : Nat} {v : Value} (G : Gv hB C env nm own k φ ρ σ mv s Q) (S : Stt hB C env nm own k φ ρ σ s.heap) (x : HExt s.heap h') (r : VR φ v mv) : Q v { s with heap := h', toks := tk } :=
  G v φ h' tk (Stp.ext x) (S.ext x) r
theorem Gv.fresh {h' : Heap} {tk : Nat} {a : Addr} {o : Obj} {mo : MO} (G : Gv hB C env nm own k φ ρ (σ ++ [mo]) (.ref σ.length) s Q) (S : Stt hB C env nm own k φ ρ σ s.heap) (x : HExt s.heap h') (ha : s.heap.get? a = none) (ho : h'.get? a = some o) (r : OR C φ o mo) :
    Q (.ref a) { s with heap := h', toks := tk } :=
  G _ (φ ++ [a]) h' tk (Stp.new x ha) (S.new x ha ho r) ⟨a, by rw [← S.len]; simp, rfl⟩
end
theorem ints_of {φ : List Addr} : ∀ {vs : List Value} {xs : List MV} {ns : List Int}, VRs φ vs xs → intsOf xs = some ns → IntsAre vs ns ∧ xs = ns.map .int
  | [], [], _, _, e => by cases e; exact ⟨.nil, rfl⟩
  | v :: vs, m :: ms, ns, r, e => by
    cases m with
    | int i =>
      have e : bd1 (intsOf ms) (fun l => some (i :: l)) = some ns := e
      obtain ⟨l, e1, e2⟩ := bd1_some.mp e
      cases e2
      obtain ⟨⟨t, rfl⟩, r⟩ := r
      obtain ⟨h1, rfl⟩ := ints_of r e1
      exact ⟨.cons i t h1, rfl⟩
    | _ => cases e
  | [], _ :: _, _, r, _ => r.elim
  | _ :: _, [], _, r, _ => r.elim
theorem VRs_ints {φ : List Addr} : ∀ {vs : List Value} {ns : List Int}, IntsAre vs ns → VRs φ vs (ns.map .int)
  | [], [], _ => trivial
  | _, _, .cons n t h => ⟨⟨t, rfl⟩, VRs_ints h⟩
theorem nats_of {φ : List Addr} : ∀ {vs : List Value} {xs : List MV} {ns : List Nat}, VRs φ vs xs → natsOf xs = some ns → IntsAre vs (ns.map Int.ofNat) ∧ (∀ c ∈ ns, c < 256)
  | [], [], _, _, e => by cases e; exact ⟨.nil, fun _ h => nomatch h⟩
  | v :: vs, m :: ms, ns, r, e => by
    cases m with
    | int i =>
      cases i with
      | ofNat i =>
        have e : bd1 (natsOf ms) (fun l => cnd (Nat.blt i 256) (some (i :: l)) none) = some ns := e
        obtain ⟨l, e1, e2⟩ := bd1_some.mp e
        obtain ⟨e0, e2⟩ := cnd_some.mp e2
        cases e2
        obtain ⟨⟨t, rfl⟩, r⟩ := r
        obtain ⟨h1, h2⟩ := nats_of r e1
        refine ⟨.cons i t h1, fun c hc => ?_⟩
        rcases List.mem_cons.mp hc with rfl | hc
        · exact W.Z.blt_iff.mp e0
        · exact h2 c hc
      | negSucc i => cases e
    | _ => cases e
  | [], _ :: _, _, r, _ => r.elim
  | _ :: _, [], _, r, _ => r.elim

theorem F1_len : F1OK prog w hB C n (.builtin "len") lenV := by
  intro A env nm own k φ ρ σ s a mv va σ' hA S r e Q E G
  unfold lenV at e
  split at e
  · rename_i x
    obtain ⟨h1, e⟩ := chk_some.mp e
    obtain ⟨rfl, rfl⟩ := retN_some e
    rw [len_eq] at G
    obtain ⟨_, t, rfl⟩ := r
    refine W.len_bytes (by simp; omega) ?_
    exact G.ext S (fun _ _ e => e) ⟨_, by simp; rfl⟩
  · rename_i j
    split at e
    · rename_i x ex
      obtain ⟨rfl, rfl⟩ := retN_some e
      rw [len_eq] at G
      obtain ⟨a, vs, m, e1, rfl, e2, rs, hl⟩ := S.list ex r
      refine len_list (SeqList e2) (by simp; omega) ?_
      exact G.ext S (fun _ _ e => e) ⟨_, by rw [← rs.length]; simp; rfl⟩
    · rename_i x ex
      obtain ⟨h1, e⟩ := chk_some.mp e
      obtain ⟨rfl, rfl⟩ := retN_some e
      rw [len_eq] at G
      obtain ⟨a, vs, e1, rfl, e2, rs⟩ := S.tuple ex r
      refine len_tuple ⟨_, e2, rfl, _, rfl⟩ (by have := rs.length; simp; omega) ?_
      exact G.ext S (fun _ _ e => e) ⟨_, by rw [← rs.length]; simp; rfl⟩
    · cases e
  · cases e
theorem F2_range : F2OK prog w hB C n (.type "range") range2V := by
  intro A env nm own k φ ρ σ s a b mv va vb σ' hA S r r' e Q E G
  unfold range2V at e
  split at e <;> try (cases e; done)
  obtain ⟨_, e⟩ := cnd_some.mp e
  obtain ⟨_, e⟩ := cnd_some.mp e
  obtain ⟨rfl, rfl⟩ := new_some e
  obtain ⟨t, rfl⟩ := r
  obtain ⟨t', rfl⟩ := r'
  exact call_range_2 (G.fresh S HExt.push (get?_size _) (Heap.get?_push_size _ rfl) ⟨_, _, _, rfl⟩)
theorem F1_int : F1OK prog w hB C n (.type "int") intV := by
  intro A env nm own k φ ρ σ s a mv va σ' hA S r e Q E G
  unfold intV at e
  split at e <;> try (cases e; done)
  cases e
  obtain ⟨t, rfl⟩ := r
  exact call_int_int (G.ext S (fun _ _ e => e) ⟨t, rfl⟩)
theorem F2_max : F2OK prog w hB C n (.builtin "max") maxV := by
  intro A env nm own k φ ρ σ s a b mv va vb σ' hA S r r' e Q E G
  unfold maxV at e
  split at e <;> try (cases e; done)
  obtain ⟨rfl, rfl⟩ := retI_some e
  obtain ⟨t, rfl⟩ := r
  obtain ⟨t', rfl⟩ := r'
  rename_i a b
  refine max_two_ints hA.handled fun h' tk hk => ?_
  have e1 : cnd (W.Z.ltB a b) b a = if b > a then b else a := by
    rw [cnd_eq]
    by_cases q : a < b
    · rw [if_pos ((W.Z.ltB_iff _ _).mpr q), if_pos q]
    · rw [if_neg (fun z => q ((W.Z.ltB_iff _ _).mp z)), if_neg q]
  rw [e1] at G
  refine G.ext S hk ?_
  split
  · exact ⟨t', rfl⟩
  · exact ⟨t, rfl⟩
theorem F1_tuple : F1OK prog w hB C n (.type "tuple") tupleV := by
  intro A env nm own k φ ρ σ s a mv va σ' hA S r e Q E G
  unfold tupleV at e
  split at e <;> try (cases e; done)
  split at e <;> try (cases e; done)
  rename_i x ex
  obtain ⟨rfl, rfl⟩ := new_some e
  obtain ⟨a, vs, m, e1, rfl, e2, rs, hl⟩ := S.list ex r
  refine call_tuple_list (SeqList e2) (fun h' hk => ?_) (by rw [sizeLine_eq]; simp; omega)
  refine Gv.fresh (h' := h'.push _) G S (fun b o e => Heap.get?_push_of_some _ (hk b o e)) ?_ (Heap.get?_push_size _ rfl) ⟨vs, rfl, rs⟩
  cases q : s.heap.get? h'.objs.size with
  | none => rfl
  | some o => exact absurd (Heap.lt_size (hk _ _ q)) (Nat.lt_irrefl _)
theorem isbV_ok {A : Around} {env : Env} {own : List Addr} {k : Kx} {φ : List Addr} {ρ : Lo} {σ σ' : Hp} {s : Shared} {a mv : MV} {va : Value} (S : Stt hB C env nm own k φ ρ σ s.heap) (r : VR φ va a) (e : isbV σ a = some (mv, σ')) {Q : Value → Shared → Prop} {E : Value → Shared → Prop} (G : Gv hB C env nm own k φ ρ σ' mv s Q) :
    wpAny (model prog w) A (call (.builtin "isinstance") [va, .type "bytes"]) Q E s := by
  unfold isbV at e
  split at e <;> try (cases e; done)
  cases e
  obtain ⟨_, t, rfl⟩ := r
  exact call_isinstance (isinstance_true (Tx := "bytes") F.isi_meta_bytes F.sub_bytes_bytes) ⟨rfl, G.ext S (fun _ _ e => e) rfl⟩
theorem F1_bytes_list {A : Around} {env : Env} {own : List Addr} {k : Kx} {φ : List Addr} {ρ : Lo} {σ : Hp} {s : Shared} {j : Nat} {xs : List MV} {l : List Nat} {va : Value} (hA : AOK n A) (S : Stt hB C env nm own k φ ρ σ s.heap) (r : VR φ va (.ref j)) (ex : getO σ j = some (.list xs)) (en : natsOf xs = some l)
    {Q : Value → Shared → Prop} {E : Value → Shared → Prop} (G : Gv hB C env nm own k φ ρ σ (.bytes l) s Q) : wpAny (model prog w) A (call (.type "bytes") [va]) Q E s := by
  obtain ⟨a, vs, m, e1, rfl, e2, rs, hl⟩ := S.list ex r
  obtain ⟨h1, h2⟩ := nats_of rs en
  refine call_bytes_ints (SeqList e2) h1 ?_ (by rw [sizeLine_eq]; omega) hA.handled fun h' t k hk => ?_
  · intro n hn
    obtain ⟨c, hc, rfl⟩ := List.mem_map.mp hn
    have := h2 c hc
    exact ⟨Int.natCast_nonneg c, by show (c : Int) < 256; omega⟩
  · refine G.ext S hk ⟨h2, t, ?_⟩
    congr 1
    unfold byteArr
    rw [List.map_map]
    rfl
end
end Mine
end

section
namespace Mine
open PySem PyProof.Rows

theorem sumI_eq : ∀ (l : List Int) (a : Int), sumI l a = a + l.sum
  | [], a => by simp [sumI]
  | b :: l, a => by rw [sumI, sumI_eq l]; simp; omega
theorem ins_perm (a : Int) : ∀ l : List Int, (ins a l).Perm (a :: l)
  | [] => .refl _
  | b :: l => by
    unfold ins
    rw [cnd_eq]
    split
    · exact .refl _
    · exact ((ins_perm a l).cons b).trans (.swap a b l)
theorem sortI_perm : ∀ l : List Int, (sortI l).Perm l
  | [] => .refl _
  | a :: l => (ins_perm a (sortI l)).trans ((sortI_perm l).cons a)
theorem ins_sorted (a : Int) : ∀ l : List Int, l.Pairwise (· ≤ ·) → (ins a l).Pairwise (· ≤ ·)
  | [], _ => by simp [ins]
  | b :: l, h => by
    obtain ⟨h1, h2⟩ := List.pairwise_cons.mp h
    unfold ins
    rw [cnd_eq]
    split
    · rename_i q
      have q := (W.Z.leB_iff _ _).mp q
      refine List.pairwise_cons.mpr ⟨fun c hc => ?_, h⟩
      rcases List.mem_cons.mp hc with rfl | hc
      · exact q
      · have := h1 c hc; omega
    · rename_i q
      have q : ¬ a ≤ b := fun z => q ((W.Z.leB_iff _ _).mpr z)
      refine List.pairwise_cons.mpr ⟨fun c hc => ?_, ins_sorted a l h2⟩
      rcases List.mem_cons.mp ((ins_perm a l).mem_iff.mp hc) with rfl | hc
      · omega
      · exact h1 c hc
theorem sortI_sorted : ∀ l : List Int, (sortI l).Pairwise (· ≤ ·)
  | [] => .nil
  | a :: l => ins_sorted a _ (sortI_sorted l)

section
variable {prog : Program} {w : World} {hB : Heap} {C : Addr} {n : Nat} {nm : List (Str × NameKind)} {mg mb : Str → Option Value}
theorem pairs_of : ∀ {vs : List Value} {ns : List Int}, IntsAre vs ns → ∃ ps : List (Int × Tok), vs = ps.map (fun p => Value.int p.1 p.2) ∧ ps.map (·.1) = ns
  | _, _, .nil => ⟨[], rfl, rfl⟩
  | _, _, .cons n t h => by
    obtain ⟨ps, e1, e2⟩ := pairs_of h
    exact ⟨(n, t) :: ps, by rw [e1]; rfl, by rw [← e2]; rfl⟩
theorem F1_sum : F1OK prog w hB C n (.builtin "sum") sumV := by
  intro A env nm own k φ ρ σ s a mv va σ' hA S r e Q E G
  unfold sumV at e
  split at e <;> try (cases e; done)
  split at e <;> try (cases e; done)
  rename_i x ex
  obtain ⟨l, e0, e⟩ := bd1_some.mp e
  obtain ⟨rfl, rfl⟩ := retI_some e
  obtain ⟨a, vs, m, e1, rfl, e2, rs, hl⟩ := S.list ex r
  obtain ⟨h1, _⟩ := ints_of rs e0
  obtain ⟨ps, rfl, hp⟩ := pairs_of h1
  refine sum_intListG (xs := ps.toArray) hA.handled (by simpa [intItems] using SeqList e2) fun h' tk t' hk => ?_
  refine G.ext S hk ⟨t', ?_⟩
  rw [preSum_eq, sumI_eq, ← hp, List.take_of_length_le (by simp)]
  simp
theorem F1_sorted : F1OK prog w hB C n (.builtin "sorted") sortedV := by
  intro A env nm own k φ ρ σ s a mv va σ' hA S r e Q E G
  unfold sortedV at e
  split at e <;> try (cases e; done)
  split at e <;> try (cases e; done)
  rename_i x ex
  obtain ⟨hz, e⟩ := cnd_some.mp e
  rw [len_eq] at hz
  have hz := Nat.le_of_ble_eq_true hz
  obtain ⟨l, e0, e⟩ := bd1_some.mp e
  unfold newL at e
  rw [frVs_eq] at e
  obtain ⟨rfl, rfl⟩ := new_some e
  obtain ⟨a, vs, m, e1, rfl, e2, rs, hl⟩ := S.list ex r
  obtain ⟨h1, hx⟩ := ints_of rs e0
  refine sorted_ints (SeqList e2) h1 (by rw [rs.length]; omega) fun out ns' g1 g2 g3 => ?_
  have hns : ns' = sortI l := List.Perm.eq_of_pairwise (le := (· ≤ ·)) (fun a b _ _ h h' => Int.le_antisymm h h') g3 (sortI_sorted l) (g2.trans (sortI_perm l).symm)
  subst hns
  obtain ⟨e, he⟩ := sortedAll_at s.heap vs out
  refine Gv.fresh (tk := s.toks) G S (fun b o e => sortedAll_old e) (Heap.get?_none_of_le (by omega)) he ⟨out.toList, e, rfl, VRs_ints g1, ?_⟩
  have : out.toList.length = (sortI l).length := g1.length
  rw [this, (sortI_perm l).length_eq]
  have : x.length = l.length := by rw [hx]; simp
  omega
theorem VRs_of {φ : List Addr} : ∀ {vs : List Value} {ms : List MV}, vs.length = ms.length → (∀ (i : Nat) (v : Value), vs[i]? = some v → ∃ m : MV, ms[i]? = some m ∧ VR φ v m) → VRs φ vs ms
  | [], [], _, _ => trivial
  | v :: vs, m :: ms, hl, h => by
    refine ⟨?_, VRs_of (by simpa using hl) fun i u hu => ?_⟩
    · obtain ⟨m', e, r⟩ := h 0 v rfl
      cases e
      exact r
    · obtain ⟨m', e, r⟩ := h (i + 1) u (by simpa using hu)
      exact ⟨m', by simpa using e, r⟩
  | [], _ :: _, hl, _ => by simp at hl
  | _ :: _, [], hl, _ => by simp at hl
end
end Mine
end

section
namespace Mine
open PySem PyProof.Rows
set_option maxRecDepth 100000

/-! ## facts of the type bytearray -/
theorem slot_barr_setitem : Slot "bytearray" "__setitem__" "bytearray.__setitem__" :=
  .of (owner := "bytearray") (n := "__setitem__") (by rw [typeLookup_type, builtinLookup_eq_fast]; kernel_rfl) (by decide +kernel) (by decide +kernel) (by decide +kernel)
    (by first | exact .inl (by decide +kernel) | exact .inr (by decide +kernel)) (by rw [isSubtype_type]; kernel_rfl)
theorem entry_barr_setitem : entryFor table "bytearray.__setitem__" = some Builtin.«bytearray.__setitem__» := by first | exact entryFor_of_fast (by kernel_rfl) | exact entryFor_of_tree (by kernel_rfl)
theorem args_barr_setitem (a b c : Value) : argsOk "bytearray.__setitem__" ⟨[a, b, c], []⟩ := by unfold argsOk; kernel_rfl
theorem setAt_toArray {α : Type} (l : List α) (i : Nat) (v : α) : (setAt l i v).toArray = l.toArray.setIfInBounds i v := by
  have : setAt l i v = l.set i v := by
    induction l generalizing i with
    | nil => rfl
    | cons a l ih => cases i with
      | zero => rfl
      | succ i => show a :: setAt l i v = _; rw [ih]; rfl
  rw [this]; simp
theorem setAt_map {α β : Type} (f : α → β) (l : List α) (i : Nat) (v : α) : (setAt l i v).map f = setAt (l.map f) i (f v) := by
  induction l generalizing i with
  | nil => rfl
  | cons a l ih => cases i with
    | zero => rfl
    | succ i => show f a :: (setAt l i v).map f = _; rw [ih]; rfl
theorem setAt_mem {α : Type} {l : List α} {i : Nat} {v x : α} (h : x ∈ setAt l i v) : x = v ∨ x ∈ l := by
  induction l generalizing i with
  | nil => cases h
  | cons a l ih => cases i with
    | zero =>
      rcases List.mem_cons.mp h with h | h
      · exact .inl h
      · exact .inr (List.mem_cons_of_mem _ h)
    | succ i =>
      rcases List.mem_cons.mp h with h | h
      · exact .inr (h ▸ List.mem_cons_self)
      · rcases ih h with h | h
        · exact .inl h
        · exact .inr (List.mem_cons_of_mem _ h)
theorem VRs.set {φ : List Addr} {v : Value} {m : MV} (r : VR φ v m) : ∀ {vs : List Value} {ms : List MV} {i : Nat}, VRs φ vs ms → VRs φ (setAt vs i v) (setAt ms i m)
  | [], [], _, _ => trivial
  | _ :: _, _ :: _, 0, h => ⟨r, h.2⟩
  | _ :: vs, _ :: ms, i + 1, h => ⟨h.1, VRs.set r h.2⟩
  | [], _ :: _, _, h => h.elim
  | _ :: _, [], _, h => h.elim

section
variable {prog : Program} {w : World} {A : Around} {E : Value → Shared → Prop} {s : Shared}
theorem setItem_list_raw {l : Addr} {vs : List Value} {m : Nat} {k : Int} {t : Tok} {v : Value} {Q : Unit → Shared → Prop} (ho : s.heap.get? l = some { cls := .type "list", data := .seq vs.toArray m }) (h0 : 0 ≤ k) (hfit : k < 2 ^ 63) (hn : k.toNat < vs.length)
    (hQ : Q () { s with heap := s.heap.update l (Obj.mapSeq (·.setIfInBounds k.toNat v)) }) : wpAny (model prog w) A (setItem (.ref l) (.int k t) v) Q E s := by
  have hl := SeqList ho
  unfold setItem
  try with_reducible refine wpAny_holding ?_
  first | refine wpAny_bind (wpAny_pure ?_) | skip
  refine wpAny_bind (wpAny_sequenceKey hl.typeIs (by decide) ?_)
  refine wpAny_bind (wpAny_callSpecial?_slot (name := Str.ofString "__setitem__") hl.typeIs slot_list_setitem
    (wpAny_call_entry slot_list_setitem hl.typeIs entry_list_setitem ?_ (args_list_setitem _ _ _)))
  show wpAny _ _ (Builtin.List.listSubscript? (.int k t) >>= _) _ _ s
  refine wpAny_bind (wpAny_listSubscript_int (fitsIndex_of h0 hfit) ?_)
  clear hfit
  obtain ⟨j, rfl⟩ := Int.eq_ofNat_of_zero_le h0
  have hx' : vs.toArray[j]? = some vs[j] := by simp [hn]
  show wpAny _ _ ((seqItemAt l j >>= fun r => pure (r.map (j, ·))) >>= _) _ _ s
  refine wpAny_bind (wpAny_bind (wpAny_seqItemAt ho rfl (wpAny_pure ?_)))
  rw [hx']
  show wpAny _ _ (setSeqItemAt l j v >>= _) _ _ s
  refine wpAny_bind (wpAny_setSeqItemAt ho rfl ?_)
  first
    | exact wpAny_bind (wpAny_pure (wpAny_pure ⟨.none, rfl, wpAny_pure hQ⟩))
    | exact wpAny_pure ⟨.none, rfl, wpAny_pure hQ⟩
theorem setItem_barr_raw {l : Addr} {b : Array UInt8} {j : Nat} {k i : Int} {t u : Tok} {Q : Unit → Shared → Prop} (ho : s.heap.get? l = some { cls := .type "bytearray", data := .bytearray b }) (hfit : b.size ≤ 1000000) (hj : seqIndex? k b.size = some j) (hf : Builtin.Bytes.fitsIndex k = true)
    (hi : (decide (i < 0) || decide (i ≥ 256)) = false) (hQ : Q () { s with heap := s.heap.update l (Obj.mapBytearray (·.setIfInBounds j i.toNat.toUInt8)) }) : wpAny (model prog w) A (setItem (.ref l) (.int k t) (.int i u)) Q E s := by
  have hT : s.TypeIs (.ref l) "bytearray" := ⟨_, ho, rfl⟩
  unfold setItem
  try with_reducible refine wpAny_holding ?_
  first | refine wpAny_bind (wpAny_pure ?_) | skip
  refine wpAny_bind (wpAny_sequenceKey hT (by decide) ?_)
  refine wpAny_bind (wpAny_callSpecial?_slot (name := Str.ofString "__setitem__") hT slot_barr_setitem
    (wpAny_call_entry slot_barr_setitem hT entry_barr_setitem ?_ (args_barr_setitem _ _ _)))
  show wpAny _ _ (Builtin.Bytes.subscript? (.int k t) >>= _) _ _ s
  refine wpAny_bind ?_
  unfold Builtin.Bytes.subscript?
  refine wpAny_bind (wpAny_specialOf (T := "int") (typeIs_int s _ t) F.slot_int_index.lookup ?_)
  refine bm_if_false rfl ?_
  refine wpAny_bind (wpAny_of_eq (a := k) rfl ?_)
  refine bm_if_false (by rw [hf]; rfl) ?_
  refine wpAny_pure ?_
  refine wpAny_bind ?_
  unfold Builtin.Bytes.byteValue
  refine wpAny_bind (wpAny_of_eq (a := i) rfl ?_)
  refine bm_if_false hi ?_
  refine wpAny_pure ?_
  refine wpAny_bind ?_
  unfold Builtin.Bytes.payload Builtin.Bytes.payload?
  refine wpAny_bind (wpAny_bind (wpAny_load ho ?_))
  refine wpAny_pure (wpAny_pure ?_)
  rw [hj]
  show wpAny _ _ (updateBytearray l (·.setIfInBounds j i.toNat.toUInt8) >>= _) _ _ _
  refine wpAny_bind ?_
  unfold updateBytearray
  refine wpAny_bind (wpAny_load ho ?_)
  show wpAny _ _ (update l (Obj.mapBytearray (·.setIfInBounds j i.toNat.toUInt8)) >>= fun _ => lookBehind l) _ _ _
  refine wpAny_bind (wpAny_update ho ?_)
  refine wpAny_lookBehind (Heap.get?_update_self (Obj.mapBytearray (·.setIfInBounds j i.toNat.toUInt8)) ho rfl) ?_ ?_
  · show (if (b.setIfInBounds j i.toNat.toUInt8).size > sizeLine then some "bytearray:memory" else none) = none
    rw [if_neg]
    rw [Array.size_setIfInBounds, sizeLine_eq]
    omega
  · exact wpAny_pure ⟨.none, rfl, wpAny_pure hQ⟩
end
end Mine
end

section
namespace Mine
open PySem PyProof.Rows
set_option maxRecDepth 100000

theorem seqIx {k : Int} {n : Nat} (h0 : 0 ≤ k) (h1 : k.toNat < n) : seqIndex? k n = some k.toNat := by
  unfold seqIndex?
  have : ¬ k < 0 := by omega
  simp only [this, if_false]
  rw [if_pos (by simp only [Bool.and_eq_true, decide_eq_true_eq]; omega)]
theorem item_some {α : Type} {x : List α} {i : Int} {u : α} (e : item x i = some u) : ∃ p, x[p]? = some u ∧ ((0 ≤ i ∧ p = i.toNat) ∨ (i < 0 ∧ -(x.length : Int) ≤ i ∧ p = (i + x.length).toNat)) := by
  unfold item at e
  rw [frN_eq, len_eq] at e
  obtain ⟨p, e1, e2⟩ := bd1_some.mp e
  rw [nth_eq] at e2
  refine ⟨p, e2, ?_⟩
  cases i with
  | ofNat k =>
    have e1 : cnd (Nat.blt k x.length) (some k) none = some p := e1
    obtain ⟨_, e1⟩ := cnd_some.mp e1
    cases e1
    exact .inl ⟨Int.natCast_nonneg _, rfl⟩
  | negSucc k =>
    have e1 : cnd (Nat.blt k x.length) (some (x.length - (k + 1))) none = some p := e1
    obtain ⟨h, e1⟩ := cnd_some.mp e1
    have h := W.Z.blt_iff.mp h
    cases e1
    exact .inr ⟨Int.negSucc_lt_zero k, Int.neg_le_neg (Int.ofNat_le.mpr h), (congrArg Int.toNat (Int.subNatNat_of_le h)).symm⟩

section
variable {prog : Program} {w : World} {hB : Heap} {C : Addr} {n : Nat} {nm : List (Str × NameKind)} {mg mb : Str → Option Value}
section
variable {A : Around} {env : Env} {own : List Addr} {k : Kx} {φ : List Addr} {ρ : Lo} {σ σ' : Hp} {s : Shared} {E : Value → Shared → Prop}
/-- an item, and its type's slot -/
theorem getItem_ok {a b u : MV} {va vb : Value} (S : Stt hB C env nm own k φ ρ σ s.heap) (ra : VR φ va a) (rb : VR φ vb b) (e : getItemV σ a b = some u) {Q : Value → Shared → Prop} (G : Gv hB C env nm own k φ ρ σ u s Q) :
    (∃ T id, s.TypeIs va T ∧ typeLookup (.type T) "__getitem__" = pure (some (.builtin id))) ∧ wpAny (model prog w) A (getItem va vb) Q E s := by
  unfold getItemV at e
  split at e
  · rename_i x i
    obtain ⟨h256, t, rfl⟩ := ra
    obtain ⟨t', rfl⟩ := rb
    cases i with
    | ofNat p =>
      have e : chk x (bd1 (nth x p) fun c => frN c fun c => some (.int (.ofNat c))) = some u := e
      obtain ⟨hl, e⟩ := chk_some.mp e
      obtain ⟨c, e1, e⟩ := bd1_some.mp e
      rw [frN_eq] at e
      cases e
      rw [nth_eq] at e1
      have hp := (List.getElem?_eq_some_iff.mp e1).1
      refine ⟨⟨"bytes", _, W.typeIs_bytes _ _ _, W.FB.slot_bytes_getitem.lookup⟩, ?_⟩
      refine W.getItem_bytes (by simp; omega) (Int.natCast_nonneg p) (by show (p : Int) < _; simp; omega) ?_
      refine G.ext S (fun _ _ e => e) ⟨s.toks, ?_⟩
      have hc : c < 256 := h256 c (List.mem_of_getElem? e1)
      congr 1
      have : (x.map UInt8.ofNat).getD (Int.ofNat p).toNat 0 = UInt8.ofNat c := by
        show (x.map UInt8.ofNat).getD p 0 = _
        rw [List.getD_eq_getElem?_getD, List.getElem?_map, e1]; rfl
      rw [this]
      show ((UInt8.ofNat c).toNat : Int) = (c : Int)
      rw [UInt8.toNat_ofNat_of_lt' (by simpa [UInt8.size] using hc)]
    | negSucc p => cases e
  · rename_i j i
    split at e
    · rename_i x ex
      obtain ⟨ad, vs, m, e1, rfl, e2, rs, hl⟩ := S.list ex ra
      obtain ⟨t', rfl⟩ := rb
      obtain ⟨p, ep, hp⟩ := item_some e
      obtain ⟨v, ev, rv⟩ := rs.get ep
      refine ⟨⟨"list", _, (SeqList e2).typeIs, list_getitem_lookup⟩, ?_⟩
      have hlen := rs.length
      have hpl := (List.getElem?_eq_some_iff.mp ev).1
      rcases hp with ⟨h0, rfl⟩ | ⟨h0, h1, rfl⟩
      · exact wpAny_getItem_list (SeqList e2) h0 (by omega) (by simpa using ev) (G.ext S (fun _ _ e => e) rv)
      · refine wpAny_getItem_list_neg (SeqList e2) h0 (by simp; omega) (by omega) ?_ (G.ext S (fun _ _ e => e) rv)
        rw [← hlen] at ev
        simpa using ev
    · rename_i x ex
      obtain ⟨hl, e⟩ := chk_some.mp e
      obtain ⟨ad, vs, e1, rfl, e2, rs⟩ := S.tuple ex ra
      obtain ⟨t', rfl⟩ := rb
      obtain ⟨p, ep, hp⟩ := item_some e
      obtain ⟨v, ev, rv⟩ := rs.get ep
      have hlen := rs.length
      have hpl := (List.getElem?_eq_some_iff.mp ev).1
      have hT : IsTup s.heap ad vs.toArray := ⟨_, e2, rfl, _, rfl⟩
      refine ⟨⟨"tuple", _, ⟨_, e2, rfl⟩, slot_tuple_getitem.lookup⟩, ?_⟩
      refine getItem_tuple (j := p) hT (by rcases hp with ⟨h0, rfl⟩ | ⟨h0, h1, rfl⟩ <;> omega) (by rcases hp with ⟨h0, rfl⟩ | ⟨h0, h1, rfl⟩ <;> omega) ?_ (by simpa using ev) (G.ext S (fun _ _ e => e) rv)
      rcases hp with ⟨h0, rfl⟩ | ⟨h0, h1, rfl⟩
      · exact seqIx h0 (by simpa using hpl)
      · rw [seqIndex_neg h0 (by simp only [List.size_toArray]; omega)]
        simp only [List.size_toArray, hlen]
    · cases e
  · cases e
theorem tail_ok {value slice : Expr} {o i : Value} {T id : String} {Q : Value → Shared → Prop} (hT : s.TypeIs o T) (hl : typeLookup (.type T) "__getitem__" = pure (some (.builtin id)))
    (hs : subscripted slice false o i = operate [o, i] (getItem o i) ∨ subscripted slice false o i = operate [i, o] (getItem o i)) (h : wpAny (model prog w) A (getItem o i) Q E s) : wpAny (model prog w) A (subscriptTail value slice o i) Q E s := by
  unfold subscriptTail
  refine wpAny_bind ?_
  rw [getitemInPython_of_ne hT.not_modules]
  refine wpAny_bind (wpAny_specialOf hT hl ?_)
  have fin : wpAny (model prog w) A (subscripted slice false o i) (fun r s₃ => wpAny (model prog w) A (letTemporaryGo value o r >>= fun _ => pure r) Q E s₃) E s := by
    rcases hs with hs | hs
    all_goals
      rw [hs]
      exact wpAny_operating (wpAny_mono h (fun r s₃ h₃ => wpAny_bind (wpAny_letTemporaryGo (wpAny_pure h₃))) fun _ _ x => x)
  first
    | exact wpAny_pure (wpAny_bind fin)
    | exact wpAny_bind (wpAny_pure (wpAny_bind fin))
    | exact wpAny_bind fin
end
theorem SE_sub {x i : Expr} {p : Pos} {cx ci : CE} (hx : SE prog w hB C n nm x cx) (hi : SE prog w hB C n nm i ci) (hs : ∀ o iv, subscripted i false o iv = operate [o, iv] (getItem o iv)) : SE prog w hB C n nm (.Subscript x i p) (cSub cx ci) := by
  intro A env own k φ ρ σ s mv σ' hA S e Q E G
  obtain ⟨a, σ₁, e1, e⟩ := bnd_some.mp e
  obtain ⟨b, σ₂, e2, e⟩ := bnd_some.mp e
  obtain ⟨u, e3, e⟩ := bd1_some.mp e
  cases e
  refine Subscript_ (hx A env own k φ ρ σ s a σ₁ hA S e1 _ E fun va φ₁ h₁ tk₁ x₁ S₁ r₁ => ?_)
  refine hi A env own k φ₁ ρ σ₁ _ b _ hA S₁ e2 _ E fun vb φ₂ h₂ tk₂ x₂ S₂ r₂ => ?_
  obtain ⟨⟨T, id, hT, hl⟩, g⟩ := getItem_ok (prog := prog) (w := w) (A := A) (E := E) (s := { s with heap := h₂, toks := tk₂ }) S₂ (r₁.later x₂) r₂ e3 ((G.from x₁).from x₂)
  exact tail_ok hT hl (.inl (hs _ _)) g

/-! ## items stored -/
theorem setItem_ok {A : Around} {env : Env} {own : List Addr} {k : Kx} {φ : List Addr} {ρ : Lo} {σ σ' : Hp} {s : Shared} {a b c : MV} {va vb vc : Value} (S : Stt hB C env nm own k φ ρ σ s.heap) (ra : VR φ va a) (rb : VR φ vb b) (rc : VR φ vc c)
    (e : setItemV k σ a b c = some σ') {Q : Unit → Shared → Prop} {E : Value → Shared → Prop} (G : ∀ h' tk, Stp (Ft k own φ) φ s.heap φ h' → Stt hB C env nm own k φ ρ σ' h' → Q () { s with heap := h', toks := tk }) : wpAny (model prog w) A (setItem va vb vc) Q E s := by
  unfold setItemV at e
  split at e <;> try (cases e; done)
  rename_i j i
  unfold putAt at e
  obtain ⟨hm, e⟩ := cnd_some.mp e
  obtain ⟨ti, rfl⟩ := rb
  cases i with
  | negSucc p => cases e
  | ofNat p =>
    dsimp only at e
    split at e
    · rename_i x ex
      obtain ⟨hp, e⟩ := cnd_some.mp e
      rw [setK_eq, setK_eq] at e
      cases e
      rw [len_eq] at hp
      have hp := W.Z.blt_iff.mp hp
      obtain ⟨ad, vs, m, e1, rfl, e2, rs, hl⟩ := S.list ex ra
      have hlen := rs.length
      refine setItem_list_raw e2 (Int.natCast_nonneg p) (by show (p : Int) < _; omega) (by show p < _; omega) ?_
      have ho : (s.heap.update ad (Obj.mapSeq (·.setIfInBounds p vc))).get? ad = some { cls := .type "list", data := .seq (setAt vs p vc).toArray (if (vs.toArray.setIfInBounds p vc).size == vs.toArray.size then m else m + 1) } := by
        rw [setAt_toArray]
        exact Heap.get?_update_self _ e2 rfl
      refine G _ s.toks (Stp.obj hm e1 (Heap.SameBut.update ..) ho) (S.setObj e1 (mut_n0 hm) (Heap.SameBut.update ..) ho (fun o' e v => by rw [e2] at e; cases e; intro q; cases q) ⟨_, _, rfl, rs.set rc, ?_⟩)
      rw [setAt_length]; exact hl
    · rename_i x ex
      obtain ⟨cc, rfl, e⟩ : ∃ cc : Nat, c = .int (.ofNat cc) ∧ cnd (Nat.ble (len x) 1000000) (cnd (Nat.blt cc 256) (cnd (Nat.blt p (len x)) (setK x p cc fun x => setK σ j (.barr x) some) none) none) none = some σ' := by
        cases c with
        | int z => cases z with
          | ofNat cc => exact ⟨cc, rfl, e⟩
          | negSucc _ => cases e
        | _ => cases e
      obtain ⟨hz, e⟩ := cnd_some.mp e
      obtain ⟨hc, e⟩ := cnd_some.mp e
      obtain ⟨hp, e⟩ := cnd_some.mp e
      rw [setK_eq, setK_eq] at e
      cases e
      rw [len_eq] at hp hz
      have hp := W.Z.blt_iff.mp hp
      have hc := W.Z.blt_iff.mp hc
      have hz := Nat.le_of_ble_eq_true hz
      unfold getO at ex
      rw [nth_eq] at ex
      obtain ⟨ad, o, e1, e2, h256, rfl⟩ := S.obj j _ ex
      obtain ⟨ad', e', rfl⟩ := ra
      rw [e1] at e'
      cases e'
      obtain ⟨tc, rfl⟩ := rc
      refine setItem_barr_raw (j := p) e2 (by simpa using hz) ?_ ?_ ?_ ?_
      · exact seqIx (Int.natCast_nonneg p) (by show p < _; simpa using hp)
      · unfold Builtin.Bytes.fitsIndex
        rw [Bool.and_eq_true, decide_eq_true_eq, decide_eq_true_eq]
        show -(2 ^ 63) ≤ (p : Int) ∧ (p : Int) < 2 ^ 63
        omega
      · rw [Bool.or_eq_false_iff, decide_eq_false_iff_not, decide_eq_false_iff_not]
        show ¬ (cc : Int) < 0 ∧ ¬ (cc : Int) ≥ 256
        omega
      · have ho : (s.heap.update ad (Obj.mapBytearray (·.setIfInBounds p (Int.ofNat cc).toNat.toUInt8))).get? ad = some { cls := .type "bytearray", data := .bytearray ((setAt x p cc).map UInt8.ofNat).toArray } := by
          rw [setAt_map, setAt_toArray]
          exact Heap.get?_update_self _ e2 rfl
        refine G _ s.toks (Stp.obj hm e1 (Heap.SameBut.update ..) ho) (S.setObj e1 (mut_n0 hm) (Heap.SameBut.update ..) ho (fun o' e v => by rw [e2] at e; cases e; intro q; cases q) ⟨fun d hd => ?_, rfl⟩)
        rcases setAt_mem hd with rfl | hd
        · exact hc
        · exact h256 d hd
    · cases e
theorem SS_sb {x i v : Expr} {q p : Pos} {cx ci cv : CE} (hv : SE prog w hB C n nm v cv) (hx : SE prog w hB C n nm x cx) (hi : SE prog w hB C n nm i ci) (hs : ∀ env, swapsWith v (some (.Subscript x i q)) p.line env = pure false) :
    SS prog w hB C n nm (.Assign [.Subscript x i q] v p) (sSb cx ci cv) := by
  intro A env own k φ ρ σ s mf ρ' σ' hA S e Q E G
  obtain ⟨c, σ₁, e1, e⟩ := bnd_some.mp e
  obtain ⟨a, σ₂, e2, e⟩ := bnd_some.mp e
  obtain ⟨b, σ₃, e3, e⟩ := bnd_some.mp e
  obtain ⟨σ₄, e4, e⟩ := bd1_some.mp e
  cases e
  refine wpAny_Assign_Subscript (hv A env own k φ ρ σ s c σ₁ hA S e1 _ E fun vc φ₁ h₁ tk₁ x₁ S₁ r₁ => ?_) (hs env)
  refine hx A env own k φ₁ ρ σ₁ _ a σ₂ hA S₁ e2 _ E fun va φ₂ h₂ tk₂ x₂ S₂ r₂ => ?_
  refine hi A env own k φ₂ ρ σ₂ _ b σ₃ hA S₂ e3 _ E fun vb φ₃ h₃ tk₃ x₃ S₃ r₃ => ?_
  exact setItem_ok (s := { s with heap := h₃, toks := tk₃ }) S₃ (r₂.later x₃) r₃ ((r₁.later x₂).later x₃) e4 fun h' tk x₄ S₄ => (((G.from x₁).from x₂).from x₃) .next φ₃ h' tk x₄ S₄ rfl

/-! ## in place -/
def InOK (prog : Program) (w : World) (hB : Heap) (C : Addr) (n : Nat) (op : Operator) (f : Hp → MV → MV → RE) : Prop :=
  ∀ (A : Around) (env : Env) (nm : List (Str × NameKind)) (own : List Addr) (k : Kx) (φ : List Addr) (ρ : Lo) (σ : Hp) (s : Shared) (a b mv : MV) (va vb : Value) (σ' : Hp),
    AOK n A → Stt hB C env nm own k φ ρ σ s.heap → VR φ va a → VR φ vb b → f σ a b = some (mv, σ') → ∀ Q E, Gv hB C env nm own k φ ρ σ' mv s Q → wpAny (model prog w) A (inplaceOp op va vb) Q E s
theorem In_add : InOK prog w hB C n .Add iadV := by
  intro A env nm own k φ ρ σ s a b mv va vb σ' hA S ra rb e Q E G
  unfold iadV at e
  split at e
  · obtain ⟨rfl, rfl⟩ := retI_some e
    obtain ⟨t, rfl⟩ := ra
    obtain ⟨u, rfl⟩ := rb
    exact PyProof.Rows.iadd_int (G.ext S (fun _ _ e => e) ⟨_, rfl⟩)
  · rename_i x y
    rw [frS_eq, app_eq] at e
    obtain ⟨hl, e⟩ := chk_some.mp e
    cases e
    obtain ⟨t, rfl⟩ := ra
    obtain ⟨u, rfl⟩ := rb
    rw [List.length_append] at hl
    refine PyProof.Rows.iadd_str (fun t' tk => ?_) (by rw [sizeLine_eq]; show x.toArray.size + y.toArray.size ≤ _; simp; omega)
    rw [← toArray_app]
    exact G.ext S (fun _ _ e => e) ⟨_, rfl⟩
  · cases e
/-- a name's value -/
theorem load_name {A : Around} {env : Env} {own : List Addr} {k : Kx} {φ : List Addr} {ρ : Lo} {σ : Hp} {s : Shared} {i : Nat} {x : Str} {mv : MV} {Q : Value → Shared → Prop} {E : Value → Shared → Prop} (S : Stt hB C env nm own k φ ρ σ s.heap) (hx : Nmd nm i x) (e : getV ρ i = some mv)
    (G : ∀ v, VR φ v mv → Q v s) : wpAny (model prog w) A (loadName env x) Q E s := by
  rcases hx with hx | hx
  · obtain ⟨m, hns, r⟩ := S.loc
    obtain ⟨u, hu, rv⟩ := r i x _ hx e
    exact wpAny_loadName_local S.kind ((S.names i x _ hx).resolve_right fun q => nomatch q.1) hns hu (G _ rv)
  · obtain ⟨c, o, hl, hcell, r⟩ := S.cel i x _ hx (.inl rfl)
    obtain ⟨u, rfl, rv⟩ := r _ e
    exact wpAny_loadName_cell S.kind ((S.names i x _ hx).resolve_right fun q => nomatch q.1) hl hcell (G _ rv)
theorem SS_augN {i : Nat} {x : Str} {q p : Pos} {op : Operator} {v : Expr} {c : CE} {f : Hp → MV → MV → RE} (hx : Nmd nm i x) (hf : InOK prog w hB C n op f) (h : SE prog w hB C n nm v c) : SS prog w hB C n nm (.AugAssign (.Name x q) op v p) (sAugN i f c) := by
  intro A env own k φ ρ σ s mf ρ' σ' hA S e Q E G
  obtain ⟨a, e0, e⟩ := bd1_some.mp e
  obtain ⟨b, σ₁, e1, e⟩ := bnd_some.mp e
  have e : ∃ v σ₂, f σ₁ a b = some (v, σ₂) ∧ (mf, ρ', σ') = (MF.next, setAt ρ i (some v), σ₂) := by
    cases a with
    | ref j => cases e
    | _ =>
      obtain ⟨v, σ₂, e2, e⟩ := bnd_some.mp e
      rw [setK_eq] at e
      cases e
      exact ⟨v, _, e2, rfl⟩
  obtain ⟨u, σ₂, e2, e⟩ := e
  cases e
  refine wpAny_AugAssign_Name (load_name S hx e0 fun va ra => ?_)
  refine h A env own k φ ρ σ s b σ₁ hA S e1 _ E fun vb φ₁ h₁ tk₁ x₁ S₁ r₁ => ?_
  refine hf A env nm own k φ₁ ρ σ₁ _ a b u va vb _ hA S₁ (ra.later x₁) r₁ e2 _ E fun vu φ₂ h₂ tk₂ x₂ S₂ r₂ => ?_
  exact store_name (s := { s with heap := h₂, toks := tk₂ }) S₂ hx r₂ fun h' tk x₃ S₃ => ((G.from x₁).from x₂) .next φ₂ h' tk x₃ S₃ rfl
theorem SS_mul3 {i j l : Nat} {x y z : Str} {qx qy qz p : Pos} {v : Expr} {c : CE} (hx : Nmd nm i x) (hy : Nmd nm j y) (hz : Nmd nm l z) (h : SE prog w hB C n nm v c) (hw : ∀ env, Knows nm env → swappedStores [.Name x qx, .Name y qy, .Name z qz] v env = pure none) :
    SS prog w hB C n nm (.Assign [.Name x qx, .Name y qy, .Name z qz] v p) (sMul [i, j, l] c) := by
  intro A env own k φ ρ σ s mf ρ' σ' hA S e Q E G
  obtain ⟨u, σ₁, e1, e⟩ := bnd_some.mp e
  have e : setK ρ i (some u) (fun ρ => setK ρ j (some u) fun ρ => setK ρ l (some u) fun ρ => (some (MF.next, ρ, σ₁) : RS)) = some (mf, ρ', σ') := e
  rw [setK_eq, setK_eq, setK_eq] at e
  cases e
  refine wpAny_Assign_three (h A env own k φ ρ σ s u _ hA S e1 _ E fun va φ₁ h₁ tk₁ x₁ S₁ r₁ => ?_) rfl (hw env ⟨S.kind, S.names⟩)
  refine wpAny_assign_Name (store_name (s := { s with heap := h₁, toks := tk₁ }) S₁ hx r₁ fun h₂ tk₂ x₂ S₂ => ?_)
  refine wpAny_assign_Name (store_name (s := { s with heap := h₂, toks := tk₂ }) S₂ hy r₁ fun h₃ tk₃ x₃ S₃ => ?_)
  refine wpAny_assign_Name (store_name (s := { s with heap := h₃, toks := tk₃ }) S₃ hz r₁ fun h₄ tk₄ x₄ S₄ => ?_)
  exact (G.from x₁) .next φ₁ h₄ tk₄ ((x₂.trans x₃).trans x₄) S₄ rfl
end
end Mine
end

section
namespace Mine
open PySem PyProof.Rows PySem.SeqAt

theorem eqB2_iff {a b : Bool} : eqB2 a b = (a == b) := by cases a <;> cases b <;> rfl
theorem zeq {a b : Int} : W.Z.eqB a b = (a == b) := Bool.eq_iff_iff.mpr (by rw [beq_iff_eq]; exact W.Z.eqB_iff a b)
theorem eqL_beq {x y : List Nat} : eqL x y = (x == y) := Bool.eq_iff_iff.mpr (by rw [beq_iff_eq]; exact eqL_iff x y)
theorem byte_inj : ∀ {x y : List Nat}, (∀ c ∈ x, c < 256) → (∀ c ∈ y, c < 256) → x.map UInt8.ofNat = y.map UInt8.ofNat → x = y
  | [], [], _, _, _ => rfl
  | a :: x, b :: y, hx, hy, e => by
    rw [List.map_cons, List.map_cons, List.cons.injEq] at e
    have h1 := congrArg UInt8.toNat e.1
    rw [UInt8.toNat_ofNat_of_lt' (by simpa [UInt8.size] using hx a List.mem_cons_self), UInt8.toNat_ofNat_of_lt' (by simpa [UInt8.size] using hy b List.mem_cons_self)] at h1
    rw [h1, byte_inj (fun c hc => hx c (List.mem_cons_of_mem _ hc)) (fun c hc => hy c (List.mem_cons_of_mem _ hc)) e.2]
  | [], _ :: _, _, _, e => by simp at e
  | _ :: _, [], _, _, e => by simp at e
theorem byte_eq {x y : List Nat} (hx : ∀ c ∈ x, c < 256) (hy : ∀ c ∈ y, c < 256) : decide ((x.map UInt8.ofNat).toArray.toList = (y.map UInt8.ofNat).toArray.toList) = eqL x y := by
  rw [eqL_beq, Bool.eq_iff_iff, decide_eq_true_eq, beq_iff_eq]
  exact ⟨fun e => byte_inj hx hy (by simpa using e), fun e => by rw [e]⟩
theorem EqAt.bytes {A : Around} {s : Shared} {b c : Array UInt8} {t u : Tok} : EqAt A s (.bytes b t) (.bytes c u) (decide (b.toList = c.toList)) := fun _ _ _ _ h => W.eqBool_bytes h

theorem eqGo_cons {f : MV → MV → Option Bool} {a b : MV} {x y : List MV} : eqGo f (a :: x) (b :: y) = bd1 (f a b) fun c => bd1 (eqGo f x y) fun d => some (cnd c d false) := rfl
theorem eqGo_at {f : MV → MV → Option Bool} : ∀ {x y : List MV} {c : Bool}, eqGo f x y = some c → x.length = y.length ∧ ∃ e : Nat → Bool, (∀ (j : Nat) (a b : MV), x[j]? = some a → y[j]? = some b → f a b = some (e j)) ∧ c = (List.range x.length).all e
  | [], [], c, h => by cases h; exact ⟨rfl, fun _ => true, fun j a b e => by simp at e, rfl⟩
  | a :: x, b :: y, c, h => by
    rw [eqGo_cons] at h
    obtain ⟨c1, h1, h⟩ := bd1_some.mp h
    obtain ⟨d, h2, h⟩ := bd1_some.mp h
    obtain ⟨hl, e, he, rfl⟩ := eqGo_at h2
    cases h
    refine ⟨by simp [hl], fun j => Nat.casesOn j c1 e, fun j a' b' ea eb => ?_, ?_⟩
    · cases j with
      | zero =>
        simp only [List.getElem?_cons_zero, Option.some.injEq] at ea eb
        subst ea; subst eb
        exact h1
      | succ j =>
        rw [List.getElem?_cons_succ] at ea eb
        exact he j a' b' ea eb
    · rw [List.length_cons, List.range_succ_eq_map, List.all_cons, List.all_map]
      cases c1 <;> rfl
  | [], _ :: _, _, h => by cases h
  | _ :: _, [], _, h => by cases h
theorem eqGo_refl {f : MV → MV → Option Bool} (hf : ∀ a c, f a a = some c → c = true) : ∀ {x : List MV} {c : Bool}, eqGo f x x = some c → c = true
  | [], c, h => by cases h; rfl
  | a :: x, c, h => by
    rw [eqGo_cons] at h
    obtain ⟨c1, h1, h⟩ := bd1_some.mp h
    obtain ⟨d, h2, h⟩ := bd1_some.mp h
    cases h
    rw [hf a c1 h1, eqGo_refl hf h2]; rfl
theorem eqV_refl {σ : Hp} : ∀ (n : Nat) (a : MV) (c : Bool), eqV σ n a a = some c → c = true
  | 0, _, _, h => by cases h
  | n + 1, a, c, h => by
    unfold eqV at h
    cases a with
    | none => cases h
    | bool b => cases h; cases b <;> rfl
    | int i => cases h; rw [zeq]; simp
    | str x => cases h; rw [eqL_beq]; simp
    | bytes x => cases h; rw [eqL_beq]; simp
    | ref i =>
      have h : eqR σ (eqV σ n) i i = some c := h
      unfold eqR at h
      split at h
      · rename_i x y e1 e2
        rw [e1] at e2
        cases e2
        rw [cnd_eq] at h
        split at h
        · exact eqGo_refl (eqV_refl n) h
        · rename_i q; exact absurd (Nat.beq_refl _) q
      · rename_i x y e1 e2
        rw [e1] at e2
        cases e2
        exact eqGo_refl (eqV_refl n) h
      · cases h

section
variable {prog : Program} {w : World} {hB : Heap} {C : Addr} {n : Nat} {nm : List (Str × NameKind)} {mg mb : Str → Option Value}
section
variable {env : Env} {own : List Addr} {k : Kx} {φ : List Addr} {ρ : Lo} {σ : Hp} {s : Shared}
theorem phi_inj (S : Stt hB C env nm own k φ ρ σ s.heap) {i j : Nat} {a : Addr} (e : φ[i]? = some a) (e' : φ[j]? = some a) : i = j :=
  (List.getElem?_inj (List.getElem?_eq_some_iff.mp e).1 (List.nodup_append.mp S.nd).2.1).mp (e.trans e'.symm)
theorem eqV_at (S : Stt hB C env nm own k φ ρ σ s.heap) : ∀ (n : Nat) (A : Around) (a b : MV) (va vb : Value) (c : Bool), A.units + n < cLine → VR φ va a → VR φ vb b → eqV σ n a b = some c → EqAt A s va vb c
  | 0, _, _, _, _, _, _, _, _, _, h => by cases h
  | n + 1, A, a, b, va, vb, c, hu, ra, rb, h => by
    unfold eqV at h
    split at h
    · cases h
      obtain ⟨t, rfl⟩ := ra
      obtain ⟨u, rfl⟩ := rb
      rw [zeq]
      exact EqAt.int_int _ _ _ _
    · cases h
      cases ra
      cases rb
      rw [eqB2_iff]
      exact EqAt.bool_bool _ _
    · cases h
      obtain ⟨h1, t, rfl⟩ := ra
      obtain ⟨h2, u, rfl⟩ := rb
      rw [← byte_eq h1 h2]
      exact EqAt.bytes
    · cases h
      obtain ⟨t, rfl⟩ := ra
      obtain ⟨u, rfl⟩ := rb
      rename_i x y
      have := EqAt.str_str (A := A) (s := s) ⟨x.toArray⟩ t ⟨y.toArray⟩ u
      rw [← str_beq] at this
      rw [eqL_beq]
      simpa using this
    · rename_i i j
      obtain ⟨ai, ei, rfl⟩ := id ra
      obtain ⟨aj, ej, rfl⟩ := id rb
      by_cases hij : ai = aj
      · subst hij
        have := phi_inj S ei ej
        subst this
        have hc : c = true := by
          have := eqV_refl (σ := σ) (n + 1) (.ref i) c (by unfold eqV; exact h)
          exact this
        rw [hc]
        exact EqAt.same _
      · refine EqAt.of_refs hij ?_
        unfold eqR at h
        split at h
        · rename_i x y e1 e2
          obtain ⟨a1, vs, m1, f1, g1, q1, r1, l1⟩ := S.list e1 ra
          obtain ⟨a2, us, m2, f2, g2, q2, r2, l2⟩ := S.list e2 rb
          cases g1
          cases g2
          rw [cnd_eq, len_eq, len_eq] at h
          split at h
          · rename_i hl
            have hl := Nat.eq_of_beq_eq_true hl
            obtain ⟨_, e, he, rfl⟩ := eqGo_at h
            have hsz : vs.toArray.size = us.toArray.size := by simp [r1.length, r2.length, hl]
            have := RcAt.lists (A := A) (e := e) (SeqList q1) (SeqList q2) hsz (by omega) fun j h1 h2 => by
              have h1' : j < vs.length := by simpa using h1
              have h2' : j < us.length := by simpa using h2
              have hx : j < x.length := by rw [← r1.length]; exact h1'
              have hy : j < y.length := by rw [← r2.length]; exact h2'
              obtain ⟨v, ev, rv⟩ := r1.get (i := j) (m := x[j]) (by simp [hx])
              obtain ⟨u, eu, ru⟩ := r2.get (i := j) (m := y[j]) (by simp [hy])
              have e1' : vs.toArray[j] = v := by
                have : vs[j]? = some vs[j] := by simp [h1']
                rw [ev] at this; simpa using (Option.some.inj this).symm
              have e2' : us.toArray[j] = u := by
                have : us[j]? = some us[j] := by simp [h2']
                rw [eu] at this; simpa using (Option.some.inj this).symm
              rw [e1', e2']
              exact eqV_at S n A.in1 _ _ v u (e j) (by show A.units + 1 + n < _; omega) rv ru (he j _ _ (by simp [hx]) (by simp [hy]))
            rw [show vs.toArray.size = x.length by simp [r1.length]] at this
            exact this
          · rename_i hl
            cases h
            refine RcAt.lists_lengths (SeqList q1) (SeqList q2) ?_ (by omega)
            simp only [List.size_toArray, bne_iff_ne, ne_eq, r1.length, r2.length]
            intro q
            exact hl (by rw [q]; exact Nat.beq_refl _)
        · rename_i x y e1 e2
          obtain ⟨a1, vs, f1, g1, q1, r1⟩ := S.tuple e1 ra
          obtain ⟨a2, us, f2, g2, q2, r2⟩ := S.tuple e2 rb
          cases g1
          cases g2
          obtain ⟨hl, e, he, rfl⟩ := eqGo_at h
          have hsz : vs.toArray.size = us.toArray.size := by simp [r1.length, r2.length, hl]
          have := RcAt.tuples (A := A) (e := e) (l := ai) (b := aj) (items := vs.toArray) (items2 := us.toArray) ⟨_, q1, rfl, _, rfl⟩ ⟨_, q2, rfl, _, rfl⟩ (by omega) fun j h1 h2 => by
            have h1' : j < vs.length := by simpa using h1
            have h2' : j < us.length := by simpa using h2
            have hx : j < x.length := by rw [← r1.length]; exact h1'
            have hy : j < y.length := by rw [← r2.length]; exact h2'
            obtain ⟨v, ev, rv⟩ := r1.get (i := j) (m := x[j]) (by simp [hx])
            obtain ⟨u, eu, ru⟩ := r2.get (i := j) (m := y[j]) (by simp [hy])
            have e1' : vs.toArray[j] = v := by
              have : vs[j]? = some vs[j] := by simp [h1']
              rw [ev] at this; simpa using (Option.some.inj this).symm
            have e2' : us.toArray[j] = u := by
              have : us[j]? = some us[j] := by simp [h2']
              rw [eu] at this; simpa using (Option.some.inj this).symm
            rw [e1', e2']
            exact eqV_at S n A.in1 _ _ v u (e j) (by show A.units + 1 + n < _; omega) rv ru (he j _ _ (by simp [hx]) (by simp [hy]))
          rw [← hsz, Nat.min_self, beq_self_eq_true, Bool.and_true, show vs.toArray.size = x.length by simp [r1.length]] at this
          exact this
        · cases h
    · cases h
/-- items of equal length, told pairwise -/
theorem pair_at (S : Stt hB C env nm own k φ ρ σ s.heap) {n : Nat} {A : Around} (hu : A.units + 1 + n < cLine) {vs us : List Value} {x y : List MV} (r1 : VRs φ vs x) (r2 : VRs φ us y) {e : Nat → Bool}
    (he : ∀ (j : Nat) (a b : MV), x[j]? = some a → y[j]? = some b → eqV σ n a b = some (e j)) : ∀ j (h1 : j < vs.toArray.size) (h2 : j < us.toArray.size), EqAt A.in1 s vs.toArray[j] us.toArray[j] (e j) := fun j h1 h2 => by
  have h1' : j < vs.length := by simpa using h1
  have h2' : j < us.length := by simpa using h2
  have hx : j < x.length := by rw [← r1.length]; exact h1'
  have hy : j < y.length := by rw [← r2.length]; exact h2'
  obtain ⟨v, ev, rv⟩ := r1.get (i := j) (m := x[j]) (by simp [hx])
  obtain ⟨u, eu, ru⟩ := r2.get (i := j) (m := y[j]) (by simp [hy])
  have e1' : vs.toArray[j] = v := by
    have : vs[j]? = some vs[j] := by simp [h1']
    rw [ev] at this; simpa using (Option.some.inj this).symm
  have e2' : us.toArray[j] = u := by
    have : us[j]? = some us[j] := by simp [h2']
    rw [eu] at this; simpa using (Option.some.inj this).symm
  rw [e1', e2']
  exact eqV_at S n A.in1 _ _ v u (e j) hu rv ru (he j _ _ (by simp [hx]) (by simp [hy]))
theorem rc_at (S : Stt hB C env nm own k φ ρ σ s.heap) {n : Nat} {A : Around} {a b : MV} {va vb : Value} {c : Bool} (hu : A.units + (n + 1) < cLine) (ra : VR φ va a) (rb : VR φ vb b) (h : eqV σ (n + 1) a b = some c) : RcAt A s va vb c ∧ RcNeAt A s va vb (!c) := by
  unfold eqV at h
  split at h
  · cases h
    obtain ⟨t, rfl⟩ := ra
    obtain ⟨u, rfl⟩ := rb
    rw [zeq]
    exact ⟨fun _ _ _ _ hq => PyProof.Rows.eq_int hq, fun _ _ _ _ hq => PyProof.Rows.ne_int hq⟩
  · cases h
    cases ra
    cases rb
    rw [eqB2_iff]
    exact ⟨fun _ _ _ _ hq => PyProof.Rows.eq_bool hq, fun _ _ _ _ hq => PyProof.Rows.ne_bool hq⟩
  · cases h
    obtain ⟨h1, t, rfl⟩ := ra
    obtain ⟨h2, u, rfl⟩ := rb
    rename_i x y
    have e := byte_eq h1 h2
    have e' : ((x.map UInt8.ofNat).toArray.toList == (y.map UInt8.ofNat).toArray.toList) = eqL x y := by rw [← e, Bool.eq_iff_iff]; simp
    refine ⟨fun _ _ _ _ hq => W.eq_bytes (by rw [e']; exact hq), fun _ _ _ _ hq => W.ne_bytes ?_⟩
    rw [bne, e']; exact hq
  · cases h
    obtain ⟨t, rfl⟩ := ra
    obtain ⟨u, rfl⟩ := rb
    rename_i x y
    have e : ((⟨x.toArray⟩ : Str) == ⟨y.toArray⟩) = eqL x y := by rw [← str_beq, eqL_beq]
    refine ⟨fun _ _ _ _ hq => PyProof.Rows.eq_str (by rw [e]; exact hq), fun _ _ _ _ hq => PyProof.Rows.ne_str ?_⟩
    rw [bne, e]; exact hq
  · rename_i i j
    unfold eqR at h
    split at h
    · rename_i x y e1 e2
      obtain ⟨a1, vs, m1, f1, rfl, q1, r1, l1⟩ := S.list e1 ra
      obtain ⟨a2, us, m2, f2, rfl, q2, r2, l2⟩ := S.list e2 rb
      rw [cnd_eq, len_eq, len_eq] at h
      split at h
      · rename_i hl
        have hl := Nat.eq_of_beq_eq_true hl
        obtain ⟨_, e, he, rfl⟩ := eqGo_at h
        have hsz : vs.toArray.size = us.toArray.size := by simp [r1.length, r2.length, hl]
        have g1 := RcAt.lists (A := A) (e := e) (SeqList q1) (SeqList q2) hsz (by omega) (pair_at S (n := n) (by omega) r1 r2 he)
        have g2 := RcNeAt.lists (A := A) (e := e) (SeqList q1) (SeqList q2) hsz (by omega) (pair_at S (n := n) (by omega) r1 r2 he)
        rw [show vs.toArray.size = x.length by simp [r1.length]] at g1 g2
        exact ⟨g1, g2⟩
      · rename_i hl
        cases h
        have hne : (vs.toArray.size != us.toArray.size) = true := by
          simp only [List.size_toArray, bne_iff_ne, ne_eq, r1.length, r2.length]
          intro q
          exact hl (by rw [q]; exact Nat.beq_refl _)
        exact ⟨RcAt.lists_lengths (SeqList q1) (SeqList q2) hne (by omega), RcNeAt.lists_lengths (SeqList q1) (SeqList q2) hne (by omega)⟩
    · rename_i x y e1 e2
      obtain ⟨a1, vs, f1, rfl, q1, r1⟩ := S.tuple e1 ra
      obtain ⟨a2, us, f2, rfl, q2, r2⟩ := S.tuple e2 rb
      obtain ⟨hl, e, he, rfl⟩ := eqGo_at h
      have hsz : vs.toArray.size = us.toArray.size := by simp [r1.length, r2.length, hl]
      have g1 := RcAt.tuples (A := A) (e := e) (l := a1) (b := a2) (items := vs.toArray) (items2 := us.toArray) ⟨_, q1, rfl, _, rfl⟩ ⟨_, q2, rfl, _, rfl⟩ (by omega) (pair_at S (n := n) (by omega) r1 r2 he)
      have g2 := RcNeAt.tuples (A := A) (e := e) (l := a1) (b := a2) (items := vs.toArray) (items2 := us.toArray) ⟨_, q1, rfl, _, rfl⟩ ⟨_, q2, rfl, _, rfl⟩ (by omega) (pair_at S (n := n) (by omega) r1 r2 he)
      rw [← hsz, Nat.min_self, beq_self_eq_true, Bool.and_true, show vs.toArray.size = x.length by simp [r1.length]] at g1 g2
      exact ⟨g1, g2⟩
    · cases h
  · cases h
end
theorem Cmp_eq : CmpOK prog w hB C n .Eq eqC := by
  intro A env nm own k φ ρ σ s a b va vb c hA S ra rb e Q E G
  have hu : A.units + 5 < cLine := by have := hA.units; show _ < 9900; omega
  exact (rc_at S (n := 4) hu ra rb e).1 prog w E Q (G.ext S (fun _ _ e => e) rfl)
theorem Cmp_ne : CmpOK prog w hB C n .NotEq neC := by
  intro A env nm own k φ ρ σ s a b va vb c hA S ra rb e Q E G
  have hu : A.units + 5 < cLine := by have := hA.units; show _ < 9900; omega
  obtain ⟨d, e1, e2⟩ := bd1_some.mp e
  have : c = !d := by cases e2; cases d <;> rfl
  subst this
  exact (rc_at S (n := 4) hu ra rb e1).2 prog w E Q (G.ext S (fun _ _ e => e) rfl)

/-! ## membership, places, counts: of ints or of bytes -/
def veq (v y : Value) : Bool := match y, v with
  | .int a _, .int b _ => a == b
  | .bytes a _, .bytes b _ => decide (a.toList = b.toList)
  | _, _ => false
theorem veq_ok {φ : List Addr} {y v : Value} {my mv : MV} (ry : VR φ y my) (rv : VR φ v mv) (hk : kindB my mv = true) : MeetsSeq.EqGives y v (veq v y) ∧ veq v y = eqB my mv := by
  unfold kindB at hk
  split at hk
  · obtain ⟨t, rfl⟩ := ry
    obtain ⟨u, rfl⟩ := rv
    exact ⟨MeetsSeq.EqGives.int _ _ _ _, zeq.symm⟩
  · obtain ⟨h1, t, rfl⟩ := ry
    obtain ⟨h2, u, rfl⟩ := rv
    exact ⟨fun _ _ _ _ _ _ h => W.eqBool_bytes h, byte_eq h1 h2⟩
  · cases hk
theorem sameK_ok {φ : List Addr} {v : Value} {mv : MV} (rv : VR φ v mv) : ∀ {vs : List Value} {ms : List MV}, VRs φ vs ms → sameK mv ms = true →
    (∀ y ∈ vs, MeetsSeq.EqGives y v (veq v y)) ∧ vs.map (veq v) = ms.map fun m => eqB m mv
  | [], [], _, _ => ⟨(fun _ h => nomatch h), rfl⟩
  | y :: vs, m :: ms, r, h => by
    have h : cnd (kindB m mv) (sameK mv ms) false = true := h
    have h1 : kindB m mv = true := by
      cases q : kindB m mv with
      | true => rfl
      | false => rw [q] at h; cases h
    rw [h1] at h
    obtain ⟨g1, g2⟩ := veq_ok r.1 rv h1
    obtain ⟨g3, g4⟩ := sameK_ok rv r.2 h
    exact ⟨fun z hz => by rcases List.mem_cons.mp hz with rfl | hz; exact g1; exact g3 z hz, by rw [List.map_cons, List.map_cons, g2, g4]⟩
  | [], _ :: _, r, _ => r.elim
  | _ :: _, [], r, _ => r.elim
theorem anyB_eq {v : MV} : ∀ l : List MV, anyB v l = l.any fun m => eqB m v
  | [] => rfl
  | a :: l => by
    show cnd (eqB a v) true (anyB v l) = _
    rw [List.any_cons, anyB_eq l]
    cases eqB a v <;> rfl
theorem cntB_eq {v : MV} : ∀ l : List MV, cntB v l = l.countP fun m => eqB m v
  | [] => rfl
  | a :: l => by
    show cnd (eqB a v) (Nat.add (cntB v l) 1) (cntB v l) = _
    rw [List.countP_cons, cntB_eq l]
    cases eqB a v <;> rfl
theorem any_map {α β : Type} {f : α → Bool} {g : β → Bool} {l : List α} {r : List β} (h : l.map f = r.map g) : l.any f = r.any g := by
  have := congrArg (fun x : List Bool => x.any id) h
  simpa [List.any_map] using this
theorem inC_ok {A : Around} {env : Env} {own : List Addr} {k : Kx} {φ : List Addr} {ρ : Lo} {σ : Hp} {s : Shared} {a b : MV} {va vb : Value} {c : Bool} (S : Stt hB C env nm own k φ ρ σ s.heap) (ra : VR φ va a) (rb : VR φ vb b) (e : inC σ a b = some c) {Q : Value → Shared → Prop} {E : Value → Shared → Prop} :
    (Q (.bool c) s → wpAny (model prog w) A (compareOp .In va vb) Q E s) ∧ (Q (.bool (!c)) s → wpAny (model prog w) A (compareOp .NotIn va vb) Q E s) := by
  unfold inC at e
  split at e <;> try (cases e; done)
  split at e <;> try (cases e; done)
  rename_i j y ey
  unfold inV at e
  obtain ⟨hk, e⟩ := cnd_some.mp e
  cases e
  obtain ⟨ad, vs, m, e1, rfl, e2, rs, hl⟩ := S.list ey rb
  obtain ⟨g1, g2⟩ := sameK_ok ra rs hk
  have : vs.toArray.any (veq va) = anyB a y := by rw [anyB_eq]; simpa using any_map g2
  refine ⟨fun q => in_listAt (veq va) (SeqList e2) (fun y hy => (g1 y (by simpa using hy)).at _ _) (by rw [this]; exact q), fun q => notIn_listAt (veq va) (SeqList e2) (fun y hy => (g1 y (by simpa using hy)).at _ _) (by rw [this]; exact q)⟩
theorem Cmp_in : CmpOK prog w hB C n .In inC := by
  intro A env nm own k φ ρ σ s a b va vb c hA S ra rb e Q E G
  exact (inC_ok S ra rb e).1 (G.ext S (fun _ _ e => e) rfl)
theorem Cmp_nin : CmpOK prog w hB C n .NotIn ninC := by
  intro A env nm own k φ ρ σ s a b va vb c hA S ra rb e Q E G
  obtain ⟨d, e1, e2⟩ := bd1_some.mp e
  have : c = !d := by cases e2; cases d <;> rfl
  subst this
  exact (inC_ok S ra rb e1).2 (G.ext S (fun _ _ e => e) rfl)
end
end Mine
end

section
namespace Mine
open PySem PyProof.Rows
set_option maxRecDepth 100000

theorem clip_eq (n : Nat) (i : Int) : clip n i = clipAt n i := by
  cases i with
  | ofNat k =>
    show cnd (Nat.ble n k) n k = _
    rw [cnd_eq]
    refine Eq.trans ?_ (clipAt_nat n k).symm
    split
    · rename_i q; exact (Nat.min_eq_right (Nat.le_of_ble_eq_true q)).symm
    · rename_i q; exact (Nat.min_eq_left (Nat.le_of_not_le fun z => q (Nat.ble_eq_true_of_le z))).symm
  | negSucc k =>
    show cnd (Nat.ble n (k + 1)) 0 (n - (k + 1)) = _
    rw [cnd_eq]
    refine Eq.trans ?_ (clipAt_neg n (k + 1) (Nat.le_add_left 1 k)).symm
    split
    · rename_i q; exact (Nat.sub_eq_zero_of_le (Nat.le_of_ble_eq_true q)).symm
    · rfl
theorem bound_eq (d n : Nat) (o : Option Int) : bound d n o = o.elim d (clipAt n) := by
  cases o with
  | none => rfl
  | some i => exact clip_eq n i
theorem cut_eq {α : Type} (l u : Option Int) (x : List α) : cut l u x = (x.drop (l.elim 0 (clipAt x.length))).take (u.elim x.length (clipAt x.length) - l.elim 0 (clipAt x.length)) := by
  unfold cut
  rw [frN_eq, len_eq, frN_eq, frN_eq, dropR_eq, takeR_eq, bound_eq, bound_eq]
theorem cut_map {α β : Type} (f : α → β) (l u : Option Int) (x : List α) : (cut l u x).map f = cut l u (x.map f) := by
  rw [cut_eq, cut_eq, List.map_take, List.map_drop, List.length_map]
theorem cut_mem {α : Type} {l u : Option Int} {x : List α} {a : α} (h : a ∈ cut l u x) : a ∈ x := by
  rw [cut_eq] at h
  exact List.mem_of_mem_drop (List.mem_of_mem_take h)
theorem cut_length {α : Type} (l u : Option Int) (x : List α) : (cut l u x).length ≤ x.length := by
  rw [cut_eq, List.length_take, List.length_drop]; exact Nat.le_trans (Nat.min_le_right _ _) (Nat.sub_le _ _)
theorem VRs.drop {φ : List Addr} : ∀ {vs : List Value} {ms : List MV} (n : Nat), VRs φ vs ms → VRs φ (vs.drop n) (ms.drop n)
  | _, _, 0, h => h
  | [], [], _ + 1, _ => trivial
  | _ :: _, _ :: _, n + 1, h => VRs.drop n h.2
  | [], _ :: _, _, h => h.elim
  | _ :: _, [], _, h => h.elim
theorem VRs.take {φ : List Addr} : ∀ {vs : List Value} {ms : List MV} (n : Nat), VRs φ vs ms → VRs φ (vs.take n) (ms.take n)
  | _, _, 0, _ => trivial
  | [], [], _ + 1, _ => trivial
  | _ :: _, _ :: _, n + 1, h => ⟨h.1, VRs.take n h.2⟩
  | [], _ :: _, _ + 1, h => h.elim
  | _ :: _, [], _ + 1, h => h.elim
theorem VRs.cut {φ : List Addr} {vs : List Value} {ms : List MV} (l u : Option Int) (h : VRs φ vs ms) : VRs φ (Mine.cut l u vs) (Mine.cut l u ms) := by
  rw [cut_eq, cut_eq, h.length]
  exact (h.drop _).take _
theorem VRs.rev {φ : List Addr} : ∀ {vs : List Value} {ms : List MV}, VRs φ vs ms → VRs φ vs.reverse ms.reverse
  | [], [], _ => trivial
  | _ :: _, _ :: _, h => by
    rw [List.reverse_cons, List.reverse_cons]
    exact (VRs.rev h.2).append ⟨h.1, trivial⟩
  | [], _ :: _, h => h.elim
  | _ :: _, [], h => h.elim

section
variable {prog : Program} {w : World} {hB : Heap} {C : Addr} {n : Nat} {nm : List (Str × NameKind)} {mg mb : Str → Option Value}
def SO (prog : Program) (w : World) (hB : Heap) (C : Addr) (n : Nat) (nm : List (Str × NameKind)) : Option Expr → Option CE → Prop
  | none, none => True
  | some e, some c => SE prog w hB C n nm e c
  | _, _ => False
theorem part_any {A : Around} {env : Env} {own : List Addr} {k : Kx} {φ : List Addr} {ρ : Lo} {σ σ' : Hp} {s : Shared} {o : Option Expr} {c : Option CE} {mo : Option MV} {q : Option Int} (hA : AOK n A) (S : Stt hB C env nm own k φ ρ σ s.heap) (h : SO prog w hB C n nm o c) (e : evo c k ρ σ = some (mo, σ')) (eq : optI mo = some q)
    {Q : Value → Shared → Prop} {E : Value → Shared → Prop} (G : ∀ v φ' h' tk, Stp (Ft k own φ) φ s.heap φ' h' → Stt hB C env nm own k φ' ρ σ' h' → IsPart v q → Q v { s with heap := h', toks := tk }) : wpAny (model prog w) A (evalPart o env) Q E s := by
  cases o with
  | none =>
    cases c with
    | none => cases e; cases eq; exact evalPart_none_step (G _ φ s.heap s.toks .refl S .none)
    | some c => exact h.elim
  | some x =>
    cases c with
    | none => exact h.elim
    | some c =>
      have e : bnd (c k ρ σ) (fun v σ => some (some v, σ)) = some (mo, σ') := e
      obtain ⟨v, σ₁, e1, e⟩ := bnd_some.mp e
      cases e
      refine evalPart_some_step (h A env own k φ ρ σ s v _ hA S e1 _ E fun va φ₁ h₁ tk₁ x₁ S₁ r₁ => ?_)
      cases v with
      | int i =>
        cases eq
        obtain ⟨t, rfl⟩ := r₁
        exact G _ φ₁ h₁ tk₁ x₁ S₁ (.int i t)
      | _ => cases eq
theorem SE_slc {x : Expr} {l u : Option Expr} {sp p : Pos} {cx : CE} {cl cu : Option CE} (hx : SE prog w hB C n nm x cx) (hl : SO prog w hB C n nm l cl) (hu : SO prog w hB C n nm u cu) : SE prog w hB C n nm (.Subscript x (.Slice l u none sp) p) (cSlc cx cl cu) := by
  intro A env own k φ ρ σ s mv σ' hA S e Q E G
  obtain ⟨a, σ₁, e1, e⟩ := bnd_some.mp e
  obtain ⟨ml, σ₂, e2, e⟩ := bnd_some.mp e
  obtain ⟨mu, σ₃, e3, e⟩ := bnd_some.mp e
  obtain ⟨ql, e4, e⟩ := bd1_some.mp e
  obtain ⟨qu, e5, e⟩ := bd1_some.mp e
  refine Subscript_ (hx A env own k φ ρ σ s a σ₁ hA S e1 _ E fun va φ₁ h₁ tk₁ x₁ S₁ r₁ => ?_)
  refine wpAny_Slice (part_any (s := { s with heap := h₁, toks := tk₁ }) hA S₁ hl e2 e4 fun vl φ₂ h₂ tk₂ x₂ S₂ pl => ?_)
  refine part_any (s := { s with heap := h₂, toks := tk₂ }) hA S₂ hu e3 e5 fun vu φ₃ h₃ tk₃ x₃ S₃ pu => ?_
  refine evalPart_none_step ?_
  have ra := (r₁.later x₂).later x₃
  have G := Gv.from (tk := tk₃) ((G.from x₁ (tk := tk₁)).from x₂ (tk := tk₂)) x₃
  unfold cutV at e
  split at e
  · rename_i b
    obtain ⟨hz, e⟩ := chk_some.mp e
    rw [frS_eq] at e
    cases e
    obtain ⟨h256, t, rfl⟩ := ra
    refine tail_ok (T := "bytes") (id := "bytes.__getitem__") (W.typeIs_bytes _ _ _) W.FB.slot_bytes_getitem.lookup (.inr rfl) ?_
    refine getItem_meets (W.typeIs_bytes _ _ _) (by decide) W.FB.slot_bytes_getitem W.FB.entry_bytes_getitem (W.FB.args_bytes_getitem_2 _ _) (W.KBc.meets_slice2 _ t _ pl pu) ⟨Heap.IsSliceOf.new _ _ _ _, ?_, fun t' kk => ?_⟩
    · refine Nat.le_trans (W.KBc.size_picked_le _ _ _) ?_
      rw [sizeLine_eq]; simp; omega
    · refine G.ext (h' := h₃.push _) (tk := kk) S₃ HExt.push ⟨fun c hc => h256 c (cut_mem hc), t', ?_⟩
      rw [W.KBc.picked_eq, cut_map, cut_eq]
      simp
  · rename_i j
    split at e <;> try (cases e; done)
    rename_i xs ex
    rw [frS_eq] at e
    obtain ⟨rfl, rfl⟩ := new_some e
    obtain ⟨ad, vs, m, f1, rfl, f2, rs, hlen⟩ := S₃.list ex ra
    have f3 := SeqList f2
    have hL := f3.push { cls := .type "slice", data := .fields #[vl, vu, .none] }
    refine tail_ok (T := "list") (id := "list.__getitem__") ⟨_, Heap.get?_push_of_some _ f2, rfl⟩ list_getitem_lookup (.inr rfl) ?_
    refine wpAny_getItem_list_slice hL (Heap.IsSliceOf.new ..) pl pu .none (by simp) ?_ (by rw [sizeLine_eq]; simp; omega)
    have y : HExt h₃ ((h₃.push { cls := .type "slice", data := .fields #[vl, vu, .none] }).push { cls := .type "list", data := .seq (slicePick vs.toArray ql qu none) }) := fun b o e => HExt.push b o (HExt.push b o e)
    refine G.fresh (tk := tk₃) S₃ y ?_ (Heap.get?_push_size _ rfl) ⟨cut ql qu vs, 0, ?_, rs.cut ql qu, Nat.le_trans (cut_length ..) hlen⟩
    · exact Heap.get?_none_of_le (by show h₃.objs.size ≤ (h₃.push _).objs.size; rw [Heap.size_push]; exact Nat.le_succ _)
    · rw [slicePick_plain, cut_eq]
      simp
  · cases e
theorem eval_rev {p q : Pos} {kd : Nat} {s : Shared} {env : Env} {A : Around} {Q : Value → Shared → Prop} {E : Value → Shared → Prop} (h : ∀ t tk, Q (.int (-1) t) { s with toks := tk }) : wpAny (model prog w) A (evalPart (some (.UnaryOp .USub (.Constant (.int 1) kd q) p)) env) Q E s := by
  refine evalPart_some_step (wpAny_UnaryOp (wpAny_Constant_int ?_))
  exact PyProof.Rows.neg_int (h _ _)
theorem SE_rev {x : Expr} {kd : Nat} {sp p q q' : Pos} {cx : CE} (hx : SE prog w hB C n nm x cx) : SE prog w hB C n nm (.Subscript x (.Slice none none (some (.UnaryOp .USub (.Constant (.int 1) kd q) q')) sp) p) (cRev cx) := by
  intro A env own k φ ρ σ s mv σ' hA S e Q E G
  obtain ⟨a, σ₁, e1, e⟩ := bnd_some.mp e
  refine Subscript_ (hx A env own k φ ρ σ s a σ₁ hA S e1 _ E fun va φ₁ h₁ tk₁ x₁ S₁ r₁ => ?_)
  refine wpAny_Slice (evalPart_none_step (evalPart_none_step (eval_rev fun t tk => ?_)))
  have G := G.from x₁ (tk := tk)
  unfold revV at e
  split at e <;> try (cases e; done)
  split at e <;> try (cases e; done)
  rename_i xs ex
  rw [frS_eq] at e
  obtain ⟨rfl, rfl⟩ := new_some e
  obtain ⟨ad, vs, m, f1, rfl, f2, rs, hlen⟩ := S₁.list ex r₁
  have hL := (SeqList f2).push { cls := .type "slice", data := .fields #[.none, .none, .int (-1) t] }
  refine tail_ok (T := "list") (id := "list.__getitem__") ⟨_, Heap.get?_push_of_some _ f2, rfl⟩ list_getitem_lookup (.inl rfl) ?_
  refine wpAny_getItem_list_slice hL (Heap.IsSliceOf.new ..) .none .none (.int (-1) t) (by simp) ?_ (by rw [sizeLine_eq]; simp; omega)
  have y : HExt h₁ ((h₁.push { cls := .type "slice", data := .fields #[.none, .none, .int (-1) t] }).push { cls := .type "list", data := .seq (slicePick vs.toArray none none (some (-1))) }) := fun b o e => HExt.push b o (HExt.push b o e)
  refine G.fresh (tk := tk) S₁ y ?_ (Heap.get?_push_size _ rfl) ⟨vs.reverse, 0, ?_, rs.rev, by rw [List.length_reverse]; exact hlen⟩
  · exact Heap.get?_none_of_le (by show h₁.objs.size ≤ (h₁.push _).objs.size; rw [Heap.size_push]; exact Nat.le_succ _)
  · rw [W.krv_pick]
end
end Mine
end

section
namespace Mine
open PySem PyProof.Rows PySem.W
set_option maxRecDepth 100000

theorem putName_dict {o : Obj} {es : Array DictEntry} {ep : Nat} (hd : o.data = .dict es ep) (hk : StrKeys es) (name : Str) (h : Int) (t : Tok) (v : Value) :
    ∃ es' ep', (Obj.putName name h (.str name t) v o).data = .dict es' ep' ∧ StrKeys es' ∧ (∀ x, nsFind es' x = if x = name then some v else nsFind es x) ∧ es'.size ≤ es.size + 1 ∧ ((nsFind es name).isSome = true → es'.size = es.size) := by
  obtain ⟨c, d, dt, sl⟩ := o
  subst hd
  cases hi : es.findIdx? (·.key.isStr name) with
  | some i =>
    refine ⟨_, ep, by first | (simp only [Obj.putName_eq, Obj.putNameByArray, hi]; done) | (simp only [Obj.putName_eq, Obj.putNameByArray, hi]; rfl), hk.modify _ _, fun x => findBy_modify (fun n v => v.isStr n) Value.isStr_inj es name x v i hi, by simp, fun _ => by simp⟩
  | none =>
    refine ⟨_, ep + 1, by first | (simp only [Obj.putName_eq, Obj.putNameByArray, hi]; done) | (simp only [Obj.putName_eq, Obj.putNameByArray, hi]; rfl), hk.push _ _ _ _, fun x => findBy_push (fun n v => v.isStr n) es name x _ _ v (fun y => by
      show (name == y) = decide (y = name)
      by_cases h : y = name
      · subst h; simp
      · rw [decide_eq_false h, beq_eq_false_iff_ne]; exact fun z => h z.symm) hi, by simp, fun q => ?_⟩
    exfalso
    have : nsFind es name = none := by
      unfold nsFind
      rw [findBy_of_findIdx?]
      simp only [hi]
    rw [this] at q
    cases q
theorem findA_put {as : List (Nat × MV)} {n a : Nat} {v : MV} : findA (putA as n v) a = if n = a then some v else findA as a := by
  induction as with
  | nil =>
    show cnd (Nat.beq n a) (some v) none = _
    rw [cnd_eq]
    by_cases h : n = a
    · rw [if_pos h, if_pos (by rw [h]; exact Nat.beq_refl a)]
    · rw [if_neg h, if_neg (fun z => h (Nat.eq_of_beq_eq_true z))]; rfl
  | cons p as ih =>
    obtain ⟨b, u⟩ := p
    unfold putA
    rw [cnd_eq]
    split
    · rename_i q
      have q := Nat.eq_of_beq_eq_true q
      subst q
      unfold findA
      rw [cnd_eq, cnd_eq]
      by_cases h : b = a
      · rw [if_pos h, if_pos (by rw [h]; exact Nat.beq_refl a)]
      · rw [if_neg h, if_neg (fun z => h (Nat.eq_of_beq_eq_true z)), if_neg (fun z => h (Nat.eq_of_beq_eq_true z))]
    · rename_i q
      unfold findA
      rw [cnd_eq, cnd_eq, ih]
      by_cases h : b = a
      · have hn : ¬ n = a := fun z => q (by rw [h, z]; exact Nat.beq_refl a)
        rw [if_pos (by rw [h]; exact Nat.beq_refl a), if_neg hn, if_pos (by rw [h]; exact Nat.beq_refl a)]
      · rw [if_neg (fun z => h (Nat.eq_of_beq_eq_true z)), if_neg (fun z => h (Nat.eq_of_beq_eq_true z))]
theorem putA_length {as : List (Nat × MV)} {n : Nat} {v : MV} : as.length ≤ (putA as n v).length ∧ (findA as n = none → (putA as n v).length = as.length + 1) := by
  induction as with
  | nil => exact ⟨Nat.zero_le _, fun _ => rfl⟩
  | cons p as ih =>
    obtain ⟨b, u⟩ := p
    unfold putA
    rw [cnd_eq]
    split
    · rename_i q
      refine ⟨Nat.le_refl _, fun z => ?_⟩
      unfold findA at z
      rw [q] at z
      cases z
    · rename_i q
      refine ⟨by simpa using ih.1, fun z => ?_⟩
      unfold findA at z
      rw [cnd_eq, if_neg q] at z
      rw [List.length_cons, ih.2 z]; rfl

/-- what is known of the class -/
structure Cls (K : Frag) (C : Addr) : Prop where
  makes : makesIn K C = true
  hga : findIn K (.ref C) "__getattribute__" = some (some (.builtin "object.__getattribute__"))
  hsa : findIn K (.ref C) "__setattr__" = some (some (.builtin "object.__setattr__"))
  hk : findIn K (.ref C) "__getattr__" = some none
  over : plainOver K C = true
  own : (clsIn K C).any (·.hasDict) = true
  attr : ∀ x ∈ attrN, findIn K (.ref C) x = some none
  notCopied : ∀ x ∈ attrN, copiedNames.contains x = false

section
variable {prog : Program} {w : World} {hB : Heap} {C : Addr} {n : Nat} {nm : List (Str × NameKind)} {mg mb : Str → Option Value} {K : Frag}
section
variable {A : Around} {env : Env} {own : List Addr} {k : Kx} {φ : List Addr} {ρ : Lo} {σ σ' : Hp} {s : Shared} {E : Value → Shared → Prop}
/-- an instance, seen -/
theorem Stt.inst (S : Stt hB C env nm own k φ ρ σ s.heap) {j d : Nat} {as : List (Nat × MV)} {v : Value} (e : getO σ j = some (.inst d)) (e' : getO σ d = some (.dict as)) (r : VR φ v (.ref j)) :
    ∃ a dx od, v = .ref a ∧ φ[d]? = some dx ∧ InstAt s.heap a { cls := .ref C, dict := some dx } C (some od) ∧ s.heap.get? dx = some od ∧ OR C φ od (.dict as) := by
  unfold getO at e e'
  rw [nth_eq] at e e'
  obtain ⟨a, o, e1, e2, dx, e3, rfl⟩ := S.obj j _ e
  obtain ⟨dx', od, f1, f2, r'⟩ := S.obj d _ e'
  rw [e3] at f1
  cases f1
  obtain ⟨a', g, rfl⟩ := r
  rw [e1] at g
  cases g
  exact ⟨a, dx, od, rfl, e3, ⟨e2, rfl, rfl, f2⟩, f2, r'⟩
theorem lookIn_some {od : Obj} {es : Array DictEntry} {ep : Nat} {x : Str} {v : Value} (hd : od.data = .dict es ep) (h : nsFind es x = some v) : lookIn x od = some (some v) := by
  unfold lookIn
  rw [hd]
  unfold nsFind findBy at h
  rw [← Array.find?_toList] at h
  obtain ⟨e, he, hv⟩ := Option.map_eq_some_iff.mp h
  simp only [he, hv]
theorem lookIn_none {od : Obj} {es : Array DictEntry} {ep : Nat} {x : Str} (hd : od.data = .dict es ep) (hk : StrKeys es) (h : nsFind es x = none) : lookIn x od = some none := by
  unfold lookIn
  rw [hd]
  unfold nsFind findBy at h
  rw [← Array.find?_toList] at h
  have he := Option.map_eq_none_iff.mp h
  have : es.toList.any (·.refKey) = false := by
    rw [List.any_eq_false]
    intro e hm
    obtain ⟨n, t, q⟩ := hk e (by simpa using hm)
    simp [DictEntry.refKey, q]
  simp only [he, this, Bool.false_eq_true, if_false]
theorem getAttr_ok (X : Cls K C) (KX : K.In hB) (S : Stt hB C env nm own k φ ρ σ s.heap) {a u : MV} {i : Nat} {x : Str} {va : Value} {b : Bool} (r : VR φ va a) (hx : attrN[i]? = some x) (e : getAttrV σ a i = some u) {Q : Value → Shared → Prop} (G : Gv hB C env nm own k φ ρ σ u s Q) :
    wpAny (model prog w) A (getAttr va x b) Q E s := by
  unfold getAttrV at e
  split at e <;> try (cases e; done)
  split at e <;> try (cases e; done)
  split at e <;> try (cases e; done)
  rename_i j _ d ej _ as ed
  obtain ⟨ad, dx, od, rfl, e1, I, e2, es, ep, hd, hk, hz, h1, h2⟩ := S.inst ej ed r
  obtain ⟨x', v, e3, e4, rv⟩ := h1 i u e
  rw [hx] at e3
  cases e3
  have hmem := List.mem_of_getElem? hx
  have hf : findObj K C (some od) x = some (.value v) := by
    obtain ⟨cd, hc, ho⟩ := any_some X.own
    unfold findObj
    rw [hc, X.attr x hmem]
    unfold W.ownOf
    simp only [Option.bind_some, ho, if_true, lookIn_some hd e4]
  refine get_value (KX.keeps S.base) I X.hga hf ?_ (G.ext S (fun _ _ e => e) rv)
  cases u <;> first
    | (cases rv; rfl)
    | (obtain ⟨_, rfl⟩ := rv; rfl)
    | (obtain ⟨_, _, rfl⟩ := rv; rfl)
theorem setAttr_ok (X : Cls K C) (KX : K.In hB) (S : Stt hB C env nm own k φ ρ σ s.heap) {a c : MV} {i : Nat} {x : Str} {va vc : Value} (r : VR φ va a) (rc : VR φ vc c) (hx : attrN[i]? = some x) (e : setAttrV k σ a i c = some σ') {Q : Unit → Shared → Prop}
    (G : ∀ h' tk, Stp (Ft k own φ) φ s.heap φ h' → Stt hB C env nm own k φ ρ σ' h' → Q () { s with heap := h', toks := tk }) : wpAny (model prog w) A (setAttr va x vc) Q E s := by
  unfold setAttrV at e
  split at e <;> try (cases e; done)
  split at e <;> try (cases e; done)
  rename_i j _ d ej
  obtain ⟨hm, e⟩ := cnd_some.mp e
  split at e <;> try (cases e; done)
  rename_i _ as ed
  obtain ⟨hz', e⟩ := cnd_some.mp e
  obtain ⟨hi5, e⟩ := cnd_some.mp e
  rw [frS_eq, setK_eq] at e
  cases e
  rw [len_eq] at hz'
  have hz' := Nat.le_of_ble_eq_true hz'
  obtain ⟨ad, dx, od, rfl, e1, I, e2, es, ep, hd, hk, hz, h1, h2⟩ := S.inst ej ed r
  have hmem := List.mem_of_getElem? hx
  have X' := KX.keeps S.base
  have ht : takerIn K C x = some none := by unfold takerIn; rw [X.attr x hmem]; rfl
  have hname := fun (t : Tok) => putName_dict hd hk x (PyData.keyHash w.params x) t vc
  refine set_plain X' I X.hsa (osa_open (s := { s with toks := s.toks + 1 }) X' I X.over ht fun b => ?_)
  obtain ⟨cd, hc, hd'⟩ := any_some X.own
  obtain ⟨es', ep', g1, g2, g3, g4, g5⟩ := hname (s.toks + 1)
  have ho : (s.heap.update dx (Obj.putName x (PyData.keyHash w.params x) (.str x (s.toks + 1)) vc)).get? dx = some (Obj.putName x (PyData.keyHash w.params x) (.str x (s.toks + 1)) vc od) := Heap.get?_update_self _ e2 (Obj.isFreed_of_dict g1)
  refine wpAny_bind (wpAny_pure (wpAny_bind (wpAny_bind (wpAny_loadPart I.at_ (wpAny_bind ((looks_clsIn X' hc).at ?_))))))
  rw [hd']
  refine wpAny_pure (a := some dx) (wpAny_bind (wpAny_pure (wpAny_bind ?_)))
  unfold nsSet
  refine wpAny_bind (wpAny_bind (wpAny_askSetting (wpAny_pure (wpAny_bind (wpAny_mkText (wpAny_bind (wpAny_loadPart e2 ?_)))))))
  rw [hd]
  dsimp only
  have cc : (!es.any (·.key.isStr x) && es.any (·.refKey)) = false := by
    have : es.any (·.refKey) = false := by
      rw [Array.any_eq_false']; intro e he; obtain ⟨n, t, h⟩ := hk e he; simp [DictEntry.refKey, h]
    rw [this, Bool.and_false]
  rw [aRefKeyMayBeTheName_at, cc]
  refine wpAny_updatePart e2 ?_
  have hsz : es'.size ≤ 102 := by omega
  refine wpAny_bind (wpAny_lookBehind ho (by rw [g1]; exact pastItsLine_dict (by rw [sizeLine_eq]; omega)) ?_)
  refine wpAny_pure ?_
  refine G _ _ (Stp.obj hm e1 (Heap.SameBut.update ..) ho) (S.setObj e1 (mut_n0 hm) (Heap.SameBut.update ..) ho (fun o' e v => by rw [e2] at e; cases e; intro q; rw [hd] at q; cases q) ⟨es', ep', g1, g2, ?_, fun a' mv' hf => ?_, fun x' v' hf => ?_⟩)
  · cases q : findA as i with
    | none =>
      rw [putA_length.2 q]; omega
    | some mv =>
      have : (nsFind es x).isSome = true := by
        obtain ⟨x', v, e3, e4, _⟩ := h1 i mv q
        rw [hx] at e3
        cases e3
        rw [e4]; rfl
      rw [g5 this]
      exact Nat.le_trans hz putA_length.1
  · rw [findA_put] at hf
    split at hf
    · rename_i q
      cases hf
      subst q
      exact ⟨x, vc, hx, by rw [g3]; simp, rc⟩
    · rename_i q
      obtain ⟨y, v, e3, e4, rv⟩ := h1 a' mv' hf
      refine ⟨y, v, e3, ?_, rv⟩
      rw [g3, if_neg, e4]
      intro z
      subst z
      have hnd : attrN.Nodup := by decide
      exact q ((List.getElem?_inj (List.getElem?_eq_some_iff.mp hx).1 hnd).mp (hx.trans e3.symm))
  · rw [g3] at hf
    split at hf
    · rename_i q
      subst q
      exact ⟨i, c, hx, by rw [findA_put, if_pos rfl]⟩
    · obtain ⟨a', mv', e3, e4⟩ := h2 x' v' hf
      refine ⟨a', if i = a' then c else mv', e3, ?_⟩
      rw [findA_put]
      split
      · rfl
      · exact e4
end
theorem SE_attr {y x : Str} {i : Nat} {np p : Pos} {c : CE} (X : Cls K C) (KX : K.In hB) (hx : attrN[i]? = some x) (h : SE prog w hB C n nm (.Name y np) c) : SE prog w hB C n nm (.Attribute (.Name y np) x p) (cAttr c i) := by
  intro A env own k φ ρ σ s mv σ' hA S e Q E G
  obtain ⟨a, σ₁, e1, e⟩ := bnd_some.mp e
  obtain ⟨u, e2, e⟩ := bd1_some.mp e
  cases e
  refine Attribute_name (h A env own k φ ρ σ s a _ hA S e1 _ E fun va φ₁ h₁ tk₁ x₁ S₁ r₁ => ?_)
  exact getAttr_ok (s := { s with heap := h₁, toks := tk₁ }) X KX S₁ r₁ hx e2 (G.from x₁)
theorem SS_at {o v : Expr} {x : Str} {i : Nat} {q p : Pos} {co cv : CE} (X : Cls K C) (KX : K.In hB) (hx : attrN[i]? = some x) (hv : SE prog w hB C n nm v cv) (ho : SE prog w hB C n nm o co) (hs : ∀ env, swapsWith v (some (.Attribute o x q)) p.line env = pure false) :
    SS prog w hB C n nm (.Assign [.Attribute o x q] v p) (sAt co i cv) := by
  intro A env own k φ ρ σ s mf ρ' σ' hA S e Q E G
  obtain ⟨c, σ₁, e1, e⟩ := bnd_some.mp e
  obtain ⟨a, σ₂, e2, e⟩ := bnd_some.mp e
  obtain ⟨σ₃, e3, e⟩ := bd1_some.mp e
  cases e
  refine plainObj_wpAny_Assign_Attribute (hv A env own k φ ρ σ s c σ₁ hA S e1 _ E fun vc φ₁ h₁ tk₁ x₁ S₁ r₁ => ?_) (hs env)
  refine ho A env own k φ₁ ρ σ₁ _ a σ₂ hA S₁ e2 _ E fun va φ₂ h₂ tk₂ x₂ S₂ r₂ => ?_
  exact setAttr_ok (s := { s with heap := h₂, toks := tk₂ }) X KX S₂ r₂ (r₁.later x₂) hx e3 fun h' tk x₃ S₃ => ((G.from x₁).from x₂) .next φ₂ h' tk x₃ S₃ rfl
end
end Mine
end

section
namespace Mine
open PySem PyProof.Rows PySem.W
set_option maxRecDepth 100000

section
variable {prog : Program} {w : World} {hB : Heap} {C : Addr} {n : Nat} {nm : List (Str × NameKind)} {mg mb : Str → Option Value} {K : Frag}
def MethOK (prog : Program) (w : World) (hB : Heap) (C : Addr) (n : Nat) (name : Str) (q : Hp → MV → Bool) (f : Kx → Hp → MV → MV → RE) : Prop :=
  ∀ (A : Around) (env : Env) (nm : List (Str × NameKind)) (own : List Addr) (k : Kx) (φ : List Addr) (ρ : Lo) (σ : Hp) (s : Shared) (a : MV) (va : Value), AOK n A → Stt hB C env nm own k φ ρ σ s.heap → VR φ va a → q σ a = true →
    ∃ T id, PlainAttrs T ∧ Slot T name id ∧ typeOf (.builtin id) = pure (.type "method_descriptor") ∧ s.TypeIs va T ∧ (∀ ad, va = .ref ad → ∃ ob, s.heap.get? ad = some ob ∧ ob.dict = none) ∧
      ∀ (φ₂ : List Addr) (σ₂ : Hp) (s₂ : Shared) (b mv : MV) (vb : Value) (σ' : Hp), Stt hB C env nm own k φ₂ ρ σ₂ s₂.heap → VR φ₂ va a → VR φ₂ vb b → f k σ₂ a b = some (mv, σ') → ∀ Q E, Gv hB C env nm own k φ₂ ρ σ' mv s₂ Q → wpAny (model prog w) A (call (.builtin id) [va, vb]) Q E s₂
theorem SE_meth {x y : Expr} {name : Str} {ap p : Pos} {cx cy : CE} {q : Hp → MV → Bool} {f : Kx → Hp → MV → MV → RE} (hf : MethOK prog w hB C n name q f) (hx : SE prog w hB C n nm x cx) (hy : SE prog w hB C n nm y cy)
    (hb : ∀ env, attributeBase x name env (eval x env) = eval x env) (hl : (ap.endLine == p.line) = true) (ht : ∀ env, backTo p (starEach [y] env) = [(false, eval y env)]) : SE prog w hB C n nm (.Call (.Attribute x name ap) [y] [] p) (cMeth q f cx cy) := by
  intro A env own k φ ρ σ s mv σ' hA S e Q E G
  obtain ⟨a, σ₁, e1, e⟩ := bnd_some.mp e
  obtain ⟨hq, e⟩ := cnd_some.mp e
  obtain ⟨b, σ₂, e2, e⟩ := bnd_some.mp e
  refine wpAny_Call_method1_late (hb env) hl (ht env) (hx A env own k φ ρ σ s a σ₁ hA S e1 _ E fun va φ₁ h₁ tk₁ x₁ S₁ r₁ => ?_)
  obtain ⟨T, id, p1, p2, p3, p4, p5, p6⟩ := hf A env nm own k φ₁ ρ σ₁ { s with heap := h₁, toks := tk₁ } a va hA S₁ r₁ hq
  refine ⟨T, id, p1, p2, p3, p4, p5, Calls.callWith_builtin rfl (Calls.evalArgs_plain (Calls.spliced_cons ?_))⟩
  refine hy A env own k φ₁ ρ σ₁ _ b σ₂ hA S₁ e2 _ E fun vb φ₂ h₂ tk₂ x₂ S₂ r₂ => Calls.spliced_nil ?_
  exact p6 φ₂ σ₂ { s with heap := h₂, toks := tk₂ } b mv vb σ' S₂ (r₁.later x₂) r₂ e Q E ((G.from x₁).from x₂)
theorem isL_some {σ : Hp} {a : MV} (h : isL σ a = true) : ∃ j x, a = .ref j ∧ getO σ j = some (.list x) := by
  unfold isL at h
  split at h <;> try (cases h; done)
  split at h <;> try (cases h; done)
  rename_i e
  exact ⟨_, _, rfl, e⟩
theorem Meth_list {name : Str} {id : String} {f : Kx → Hp → MV → MV → RE} (p2 : Slot "list" name id) (p3 : typeOf (.builtin id) = pure (.type "method_descriptor"))
    (h : ∀ (A : Around) (env : Env) (nm : List (Str × NameKind)) (own : List Addr) (k : Kx) (φ₂ : List Addr) (ρ : Lo) (σ₂ : Hp) (s₂ : Shared) (a b mv : MV) (va vb : Value) (σ' : Hp), AOK n A → Stt hB C env nm own k φ₂ ρ σ₂ s₂.heap → VR φ₂ va a → VR φ₂ vb b → f k σ₂ a b = some (mv, σ') → ∀ Q E, Gv hB C env nm own k φ₂ ρ σ' mv s₂ Q → wpAny (model prog w) A (call (.builtin id) [va, vb]) Q E s₂) :
    MethOK prog w hB C n name isL f := by
  intro A env nm own k φ ρ σ s a va hA S r hq
  obtain ⟨j, x, rfl, ex⟩ := isL_some hq
  obtain ⟨ad, vs, m, e1, rfl, e2, rs, hl⟩ := S.list ex r
  exact ⟨"list", id, F.plainAttrs_list, p2, p3, ⟨_, e2, rfl⟩, (fun ad' e => by cases e; exact ⟨_, e2, rfl⟩), fun φ₂ σ₂ s₂ b mv vb σ' S₂ ra rb e Q E G => h A env nm own k φ₂ ρ σ₂ s₂ _ b mv _ vb σ' hA S₂ ra rb e Q E G⟩
theorem append_ok {A : Around} {env : Env} {own : List Addr} {k : Kx} {φ : List Addr} {ρ : Lo} {σ : Hp} {s : Shared} {a b mv : MV} {va vb : Value} {σ' : Hp} {Q : Value → Shared → Prop} {E : Value → Shared → Prop} (S : Stt hB C env nm own k φ ρ σ s.heap)
    (ra : VR φ va a) (rb : VR φ vb b) (e : appendV k σ a b = some (mv, σ')) (G : Gv hB C env nm own k φ ρ σ' mv s Q) : wpAny (model prog w) A (call (.builtin "list.append") [va, vb]) Q E s := by
  unfold appendV at e
  split at e <;> try (cases e; done)
  rename_i j
  obtain ⟨hm, e⟩ := cnd_some.mp e
  split at e <;> try (cases e; done)
  rename_i x ex
  rw [frS_eq, app_eq] at e
  obtain ⟨hz, e⟩ := chk_some.mp e
  rw [setK_eq] at e
  cases e
  obtain ⟨ad, vs, m, e1, rfl, e2, rs, hl⟩ := S.list ex ra
  rw [List.length_append, ← rs.length] at hz
  have hz : vs.length + 1 ≤ 1000000 := hz
  refine call_meets F.slot_list_append ⟨_, e2, rfl⟩ F.entry_list_append (F.args_list_append_2 _ _) (list_append ad vs.toArray m vb (by rw [sizeLine_eq]; simp; omega)) ⟨e2, ?_⟩
  have ho : (s.heap.update ad (Obj.mapSeq fun x => x.push vb)).get? ad = some { cls := .type "list", data := .seq (vs ++ [vb]).toArray (if (vs.toArray.push vb).size == vs.toArray.size then m else m + 1) } := by
    rw [← List.push_toArray]
    exact Heap.get?_update_self _ e2 rfl
  exact G _ φ _ s.toks (Stp.obj hm e1 (Heap.SameBut.update ..) ho) (S.setObj e1 (mut_n0 hm) (Heap.SameBut.update ..) ho (fun o' e v => by rw [e2] at e; cases e; intro q; cases q) ⟨_, _, rfl, rs.append ⟨rb, trivial⟩, by simp; omega⟩) rfl
theorem M_append : MethOK prog w hB C n "append" isL appendV :=
  Meth_list F.slot_list_append F.type_list_append fun A env nm own k φ ρ σ s a b mv va vb σ' hA S ra rb e Q E G => append_ok S ra rb e G
theorem M_count : MethOK prog w hB C n "count" isL countLV := by
  refine Meth_list F.slot_list_count F.type_list_count fun A env nm own k φ ρ σ s a b mv va vb σ' hA S ra rb e Q E G => ?_
  unfold countLV at e
  split at e <;> try (cases e; done)
  split at e <;> try (cases e; done)
  rename_i x ex
  obtain ⟨c, e0, e⟩ := bd1_some.mp e
  obtain ⟨rfl, rfl⟩ := retN_some e
  unfold countV at e0
  obtain ⟨hk, e0⟩ := cnd_some.mp e0
  cases e0
  obtain ⟨ad, vs, m, e1, rfl, e2, rs, hl⟩ := S.list ex ra
  obtain ⟨g1, g2⟩ := sameK_ok rb rs hk
  have hg : ∀ y, y ∈ vs.toArray → MeetsSeq.EqGives y vb (veq vb y) := fun y hy => g1 y (by simpa using hy)
  refine call_meets F.slot_list_count ⟨_, e2, rfl⟩ F.entry_list_count (F.args_list_count_2 _ _) (MeetsSeq.list_count ad vs.toArray m vb (veq vb) hg) ⟨e2, ?_⟩
  refine G.ext S (fun _ _ e => e) ⟨s.toks, ?_⟩
  have : vs.countP (veq vb) = x.countP fun m => eqB m b := by
    have := congrArg (fun l : List Bool => l.countP id) g2
    simpa [List.countP_map] using this
  rw [cntB_eq, ← this]
end
end Mine
end

section
namespace Mine
open PySem PyProof.Rows PySem.W
set_option maxRecDepth 100000

/-- a store in a heap, no frame in sight -/
structure Sto (hB : Heap) (C : Addr) (φ : List Addr) (σ : Hp) (h : Heap) : Prop where
  len : φ.length = σ.length
  obj : ∀ (i : Nat) (mo : MO), σ[i]? = some mo → ∃ a o, φ[i]? = some a ∧ h.get? a = some o ∧ OR C φ o mo
  nd : φ.Nodup
  base : HExt hB h
theorem Stt.sto {hB : Heap} {C : Addr} {env : Env} {nm : List (Str × NameKind)} {own : List Addr} {k : Kx} {φ : List Addr} {ρ : Lo} {σ : Hp} {h : Heap} (S : Stt hB C env nm own k φ ρ σ h) : Sto hB C φ σ h :=
  ⟨S.len, S.obj, (List.nodup_append.mp S.nd).2.1, S.base⟩
/-- how a call ends -/
structure Fin1 (hB : Heap) (C : Addr) (φ : List Addr) (h : Heap) (φ' : List Addr) (σ' : Hp) (h' : Heap) : Prop where
  sto : Sto hB C φ' σ' h'
  ext : HExt h h'
  pre : ∃ t, φ' = φ ++ t ∧ ∀ a ∈ t, h.get? a = none
/-- the def at a answers as F says -/
def FK (prog : Program) (w : World) (hB : Heap) (C : Addr) (n : Nat) (f : Value) (F : FS) : Prop :=
  ∀ (A : Around) (φ : List Addr) (σ : Hp) (s : Shared) (vs : List Value) (ms : List MV) (mv : MV) (σ' : Hp), AOK n A → Sto hB C φ σ s.heap → VRs φ vs ms → F σ ms = some (mv, σ') →
    ∀ R : Result → Shared → Prop, (∀ v φ' h' tk, Fin1 hB C φ s.heap φ' σ' h' → VR φ' v mv → R (.ok (.ret v)) { s with heap := h', toks := tk }) → codeAny (model prog w) A (.call f ⟨vs, []⟩) R s
theorem AOK.mono {n m : Nat} {A : Around} (h : AOK n A) (hm : m ≤ n) : AOK m A := ⟨h.handled, by have := h.depth; omega, by have := h.units; omega⟩
theorem FK.mono {prog : Program} {w : World} {hB : Heap} {C : Addr} {n m : Nat} {f : Value} {F : FS} (h : FK prog w hB C n f F) (hm : n ≤ m) : FK prog w hB C m f F :=
  fun A φ σ s vs ms mv σ' hA => h A φ σ s vs ms mv σ' (hA.mono hm)
/-- a function of the text -/
structure Dfn (hB : Heap) (a : Addr) (fd : FuncData) (body : List Stmt) (pn : List Str) : Prop where
  ho : ∃ o, hB.get? a = some o ∧ o.data = .func fd
  code : hB.CodeRec fd.code fd.qualname
  body_ : fd.body = .stmts body
  clo : fd.closure = []
  glob : fd.globals = mainGlobals
  blt : fd.builtins = builtinsNs
  co : fd.scope.isCoroutine = false
  gen : fd.scope.isGenerator = false
  kind : fd.scope.kind = .function
  bind : ∀ vs : List Value, vs.length = pn.length → bindArgs fd ⟨vs, []⟩ = pure (pn.zip vs)
/-- its names -/
structure Nms (nm : List (Str × NameKind)) (ps : List Nat) (pn : List Str) : Prop where
  nd : (nm.map (·.1)).Nodup
  nofree : ∀ p ∈ nm, p.2 ≠ .free
  len : ps.length = pn.length
  par : ∀ (j : Nat) (p : Nat) (x : Str), ps[j]? = some p → pn[j]? = some x → nm[p]? = some (x, .local) ∨ nm[p]? = some (x, .cell)

theorem cellsFrom_mem : ∀ {names : List (Str × NameKind)} {b : Nat} {acc : List (Str × Addr)} {x : Str} {c : Addr}, (x, c) ∈ cellsFrom b names acc → (x, c) ∈ acc ∨ (x, NameKind.cell) ∈ names
  | [], _, _, _, _, h => .inl h
  | (y, kd) :: r, b, acc, x, c, h => by
    unfold cellsFrom at h
    split at h
    · rename_i hk
      rcases cellsFrom_mem h with h | h
      · rcases List.mem_cons.mp h with h | h
        · cases h
          exact .inr (by rw [← eq_of_beq hk]; exact List.mem_cons_self)
        · exact .inl h
      · exact .inr (List.mem_cons_of_mem _ h)
    · rcases cellsFrom_mem h with h | h
      · exact .inl h
      · exact .inr (List.mem_cons_of_mem _ h)
theorem cellsFrom_acc : ∀ {names : List (Str × NameKind)} {b : Nat} {acc : List (Str × Addr)} {x : Str}, (∃ c, (x, c) ∈ acc) → ∃ c, (x, c) ∈ cellsFrom b names acc
  | [], _, _, _, h => h
  | (y, kd) :: r, b, acc, x, ⟨c, h⟩ => by
    unfold cellsFrom
    split
    · exact cellsFrom_acc ⟨c, List.mem_cons_of_mem _ h⟩
    · exact cellsFrom_acc ⟨c, h⟩
theorem cellsFrom_has : ∀ {names : List (Str × NameKind)} {b : Nat} {acc : List (Str × Addr)} {x : Str}, (x, NameKind.cell) ∈ names → ∃ c, (x, c) ∈ cellsFrom b names acc
  | (y, kd) :: r, b, acc, x, h => by
    unfold cellsFrom
    rcases List.mem_cons.mp h with h | h
    · cases h
      rw [if_pos (by rfl)]
      exact cellsFrom_acc ⟨b, List.mem_cons_self⟩
    · split
      · exact cellsFrom_has h
      · exact cellsFrom_has h
theorem lookup_some {α : Type} : ∀ {l : List (Str × α)} {x : Str} {c : α}, (x, c) ∈ l → ∃ c', l.lookup x = some c'
  | (y, d) :: l, x, c, h => by
    rw [List.lookup_cons]
    cases hb : x == y with
    | true => exact ⟨d, rfl⟩
    | false =>
      rcases List.mem_cons.mp h with h | h
      · cases h; rw [beq_self_eq_true] at hb; cases hb
      · exact lookup_some h
theorem getV_rep {nv i : Nat} {mv : MV} : getV (rep nv [none]) i ≠ some mv := by
  intro h
  unfold getV at h
  rw [nth_eq] at h
  have : ∀ (m : Nat) (o : Option MV), o ∈ (rep m [none] : Lo) → o = none := by
    intro m
    induction m with
    | zero => intro o h; cases h
    | succ m ih =>
      intro o h
      have h : o ∈ app [none] (rep m [none]) := h
      rw [app_eq] at h
      rcases List.mem_append.mp h with h | h
      · simpa using h
      · exact ih o h
  cases q : (rep nv [none] : Lo)[i]? with
  | none => rw [q] at h; cases h
  | some o =>
    rw [q] at h
    rw [this nv o (List.mem_of_getElem? q)] at h
    cases h
/-- what the parameters' binding leaves -/
structure Agr (nm : List (Str × NameKind)) (φ : List Addr) (ρ : Lo) (m cm : Str → Option Value) : Prop where
  loc : ∀ (i : Nat) (x : Str) (mv : MV), nm[i]? = some (x, .local) → getV ρ i = some mv → ∃ v, m x = some v ∧ VR φ v mv
  cel : ∀ (i : Nat) (x : Str) (mv : MV), nm[i]? = some (x, .cell) → getV ρ i = some mv → ∃ v, cm x = some v ∧ VR φ v mv
theorem agree {nm : List (Str × NameKind)} {φ : List Addr} (hn : (nm.map (·.1)).Nodup) : ∀ {ps : List Nat} {pn : List Str} {vs : List Value} {ms : List MV} {ρ ρ' : Lo} {m cm : Str → Option Value},
    (∀ (j : Nat) (p : Nat) (x : Str), ps[j]? = some p → pn[j]? = some x → nm[p]? = some (x, .local) ∨ nm[p]? = some (x, .cell)) → ps.length = pn.length → VRs φ vs ms → bindP ρ ps ms = some ρ' → Agr nm φ ρ m cm →
    Agr nm φ ρ' (bindL (fun x => nm.lookup x) (pn.zip vs) m) (bindC (fun x => nm.lookup x) (pn.zip vs) cm)
  | [], [], vs, [], ρ, ρ', m, cm, _, _, _, e, g => by cases e; exact g
  | p :: ps, x :: pn, v :: vs, mv :: ms, ρ, ρ', m, cm, hp, hl, r, e, g => by
    unfold bindP at e
    rw [setK_eq] at e
    have h0 := hp 0 p x rfl rfl
    rw [List.zip_cons_cons]
    unfold bindL bindC
    refine agree hn (fun j q y e1 e2 => hp (j + 1) q y (by simpa using e1) (by simpa using e2)) (by simpa using hl) r.2 e ?_
    rcases h0 with h0 | h0
    · have hk : nm.lookup x = some .local := lookup_at hn h0
      rw [if_pos hk, if_pos hk]
      refine ⟨fun i y u e1 e2 => ?_, fun i y u e1 e2 => ?_⟩
      · rcases getV_set e2 with ⟨rfl, rfl⟩ | ⟨hne, e2⟩
        · rw [h0] at e1; cases e1; exact ⟨v, by simp, r.1⟩
        · obtain ⟨z, e3, e4⟩ := g.loc i y u e1 e2
          refine ⟨z, ?_, e4⟩
          rw [if_neg, e3]
          intro q; subst q
          exact hne (name_inj hn h0 e1)
      · rcases getV_set e2 with ⟨rfl, rfl⟩ | ⟨_, e2⟩
        · rw [h0] at e1; cases e1
        · exact g.cel i y u e1 e2
    · have hk : nm.lookup x = some .cell := lookup_at hn h0
      have hk' : ¬ nm.lookup x = some .local := by rw [hk]; intro q; cases q
      rw [if_neg hk', if_neg hk']
      refine ⟨fun i y u e1 e2 => ?_, fun i y u e1 e2 => ?_⟩
      · rcases getV_set e2 with ⟨rfl, rfl⟩ | ⟨_, e2⟩
        · rw [h0] at e1; cases e1
        · exact g.loc i y u e1 e2
      · rcases getV_set e2 with ⟨rfl, rfl⟩ | ⟨hne, e2⟩
        · rw [h0] at e1; cases e1; exact ⟨v, by simp, r.1⟩
        · obtain ⟨z, e3, e4⟩ := g.cel i y u e1 e2
          refine ⟨z, ?_, e4⟩
          rw [if_neg, e3]
          intro q; subst q
          exact hne (name_inj hn h0 e1)
  | [], [], _, _ :: _, _, _, _, _, _, _, _, e, _ => by cases e
  | [], _ :: _, _, _, _, _, _, _, _, hl, _, _, _ => by cases hl
  | _ :: _, [], _, _, _, _, _, _, _, hl, _, _, _ => by cases hl
  | _ :: _, _ :: _, [], [], _, _, _, _, _, _, _, e, _ => by cases e
  | _ :: _, _ :: _, [], _ :: _, _, _, _, _, _, _, r, _, _ => r.elim
  | _ :: _, _ :: _, _ :: _, [], _, _, _, _, _, _, r, _, _ => r.elim
theorem bindP_length : ∀ {ps : List Nat} {ms : List MV} {ρ ρ' : Lo}, bindP ρ ps ms = some ρ' → ps.length = ms.length
  | [], [], _, _, _ => rfl
  | _ :: ps, _ :: ms, ρ, ρ', e => by
    unfold bindP at e
    rw [setK_eq] at e
    exact congrArg (· + 1) (bindP_length e)
  | [], _ :: _, _, _, e => by cases e
  | _ :: _, [], _, _, e => by cases e

/-- the addresses of a frame's cells -/
def cellAd (names : List (Str × NameKind)) (cells : List (Str × Addr)) : List Addr := names.filterMap fun p => if p.2 = .cell then cells.lookup p.1 else none
theorem cellAd_mem {names : List (Str × NameKind)} {cells : List (Str × Addr)} {b : Addr} (h : b ∈ cellAd names cells) : ∃ x, (x, NameKind.cell) ∈ names ∧ cells.lookup x = some b := by
  obtain ⟨p, hp, e⟩ := List.mem_filterMap.mp h
  split at e
  · rename_i q
    exact ⟨p.1, by rw [← q]; exact hp, e⟩
  · cases e
theorem cellAd_nodup {names : List (Str × NameKind)} {cells : List (Str × Addr)} (hn : (names.map (·.1)).Nodup) (hc : cells.Pairwise fun x y => x.2 ≠ y.2) : (cellAd names cells).Nodup := by
  refine List.Pairwise.filterMap (R := fun p q : Str × NameKind => p.1 ≠ q.1) _ (fun p q hpq b hb b' hb' e => ?_) (List.pairwise_map.mp hn)
  split at hb
  · split at hb'
    · subst e
      exact hpq (PySem.name_of_addr hc (PySem.mem_of_lookup hb) (PySem.mem_of_lookup hb'))
    · cases hb'
  · cases hb

section
variable {prog : Program} {w : World} {hB : Heap} {C : Addr} {n : Nat} {nm : List (Str × NameKind)} {mg mb : Str → Option Value} {K : Frag}
/-- the callee's frame, just made -/
theorem callee_stt {a : Addr} {fd : FuncData} {body : List Stmt} {pn : List Str} {ps : List Nat} {φ : List Addr} {σ : Hp} {s s₁ : Shared} {vs : List Value} {ms : List MV} {ρ : Lo} (D : Dfn hB a fd body pn) (N : Nms fd.scope.names ps pn)
    (S : Sto hB C φ σ s.heap) (r : VRs φ vs ms) (e : bindP (rep fd.scope.names.length [none]) ps ms = some ρ)
    (x : InCallC s (callEnvC fd s.heap.objs.size a).locals (bindL (callEnvC fd s.heap.objs.size a).kindOf (pn.zip vs) fun _ => none) (callEnvC fd s.heap.objs.size a).cells (bindC (callEnvC fd s.heap.objs.size a).kindOf (pn.zip vs) fun _ => none) s₁) :
    Stt hB C (callEnvC fd s.heap.objs.size a) fd.scope.names (s.heap.objs.size :: cellAd fd.scope.names (cellsFrom (s.heap.objs.size + 1) fd.scope.names [])) ⟨σ.length, []⟩ φ ρ σ s₁.heap := by
  have hcells : (callEnvC fd s.heap.objs.size a).cells = cellsFrom (s.heap.objs.size + 1) fd.scope.names [] := rfl
  have hloc : (callEnvC fd s.heap.objs.size a).locals = s.heap.objs.size := rfl
  have ag := agree (φ := φ) (m := fun _ => none) (cm := fun _ => none) N.nd N.par N.len r e ⟨fun i y u _ h => absurd h getV_rep, fun i y u _ h => absurd h getV_rep⟩
  have hnew : ∀ b, s.heap.objs.size ≤ b → s.heap.get? b = none := fun b hb => Heap.get?_none_of_le hb
  have habove : ∀ y c, (y, c) ∈ cellsFrom (s.heap.objs.size + 1) fd.scope.names [] → s.heap.objs.size < c := fun y c hm => x.above y c (by rw [hcells]; exact hm)
  have hphi : ∀ (i : Nat) (b : Addr), φ[i]? = some b → ∃ o, s.heap.get? b = some o := fun i b hb => by
    have hi := (List.getElem?_eq_some_iff.mp hb).1
    rw [S.len] at hi
    obtain ⟨b', o, e1, e2, _⟩ := S.obj i σ[i] (by simp [hi])
    rw [hb] at e1; cases e1
    exact ⟨o, e2⟩
  have hcell : ∀ y c, (callEnvC fd s.heap.objs.size a).cells.lookup y = some c → (y, c) ∈ cellsFrom (s.heap.objs.size + 1) fd.scope.names [] := fun y c h => PySem.mem_of_lookup h
  have own_new : ∀ b ∈ s.heap.objs.size :: cellAd fd.scope.names (cellsFrom (s.heap.objs.size + 1) fd.scope.names []), s.heap.objs.size ≤ b := fun b hb => by
    rcases List.mem_cons.mp hb with rfl | hb
    · exact Nat.le_refl _
    · obtain ⟨y, _, hl⟩ := cellAd_mem hb
      exact Nat.le_of_lt (habove y b (PySem.mem_of_lookup hl))
  refine {
    names := fun i y kd h => .inl (lookup_at N.nd h)
    ocel := fun i y h => by
      obtain ⟨c, hm⟩ := cellsFrom_has (b := s.heap.objs.size + 1) (acc := []) (List.mem_of_getElem? h)
      obtain ⟨c', hl⟩ := lookup_some hm
      exact ⟨c', List.mem_cons_of_mem _ (List.mem_filterMap.mpr ⟨(y, .cell), List.mem_of_getElem? h, by rw [if_pos rfl]; exact hl⟩), hl⟩
    kind := D.kind
    glob := D.glob
    blt := D.blt
    ndn := N.nd
    locl := List.mem_cons_self
    loc := ⟨_, x.toInCall.ns, ag.loc⟩
    cel := fun i y kd h hk => by
      rcases hk with rfl | rfl
      · obtain ⟨c, hm⟩ := cellsFrom_has (b := s.heap.objs.size + 1) (acc := []) (List.mem_of_getElem? h)
        obtain ⟨c', hl⟩ := lookup_some hm
        refine ⟨c', _, hl, x.cell y c' hl, fun mv hv => ?_⟩
        exact ag.cel i y mv h hv
      · exact absurd rfl (N.nofree _ (List.mem_of_getElem? h))
    cinj := fun y z c h1 h2 => PySem.name_of_addr x.apart (PySem.mem_of_lookup h1) (PySem.mem_of_lookup h2)
    cnm := fun y c h => by
      rcases cellsFrom_mem (hcell y c h) with h | h
      · cases h
      · obtain ⟨i, hi⟩ := List.getElem?_of_mem h
        exact ⟨i, .cell, hi, .inl rfl⟩
    len := S.len
    obj := fun i mo h => by
      obtain ⟨b, o, e1, e2, r⟩ := S.obj i mo h
      exact ⟨b, o, e1, x.toInCall.keep _ _ e2, r⟩
    nd := by
      refine List.nodup_append.mpr ⟨?_, S.nd, fun b hb c hc q => ?_⟩
      · refine List.nodup_cons.mpr ⟨fun h => ?_, ?_⟩
        · obtain ⟨y, _, hl⟩ := cellAd_mem h
          exact Nat.lt_irrefl _ (habove y _ (PySem.mem_of_lookup hl))
        · exact cellAd_nodup N.nd x.apart
      · subst q
        obtain ⟨i, hi⟩ := List.getElem?_of_mem hc
        obtain ⟨o, ho⟩ := hphi i b hi
        rw [hnew b (own_new b hb)] at ho
        cases ho
    base := fun b o h => x.toInCall.keep b o (S.base b o h)
    hown := fun b hb => by
      cases q : hB.get? b with
      | none => rfl
      | some o => have := S.base b o q; rw [hnew b (own_new b hb)] at this; cases this
    olt := fun b hb => by
      rcases List.mem_cons.mp hb with rfl | hb
      · obtain ⟨o, _, _, h, _⟩ := x.toInCall.ns; exact ⟨o, h⟩
      · obtain ⟨y, _, hl⟩ := cellAd_mem hb
        obtain ⟨o, ho, _⟩ := x.cell y b hl
        exact ⟨o, ho⟩
    hphi := fun i b hi h => by
      have := (List.getElem?_eq_some_iff.mp h).1
      rw [S.len] at this
      have hi : σ.length ≤ i := hi
      omega
    n0 := Nat.le_refl _ }
end
end Mine
end

section
namespace Mine
open PySem PyProof.Rows PySem.W
set_option maxRecDepth 100000

theorem retF_some {x : RS} {mv : MV} {σ' : Hp} (h : retF x = some (mv, σ')) : ∃ f ρ', x = some (f, ρ', σ') ∧ ((f = .next ∧ mv = .none) ∨ f = .ret mv) := by
  cases x with
  | none => cases h
  | some p =>
    obtain ⟨f, ρ', σ₁⟩ := p
    cases f with
    | next => cases h; exact ⟨_, _, rfl, .inl ⟨rfl, rfl⟩⟩
    | brk => cases h
    | ret v => cases h; exact ⟨_, _, rfl, .inr rfl⟩
theorem fDef_some {nv : Nat} {ps : List Nat} {c : CS} {σ σ' : Hp} {ms : List MV} {mv : MV} (h : fDef nv ps c σ ms = some (mv, σ')) : ∃ ρ, bindP (rep nv [none]) ps ms = some ρ ∧ retF (c ⟨σ.length, []⟩ ρ σ) = some (mv, σ') := by
  unfold fDef at h
  rw [frN_eq, frS_eq, len_eq] at h
  exact bd1_some.mp h
section
variable {prog : Program} {w : World} {hB : Heap} {C : Addr} {n : Nat} {nm : List (Str × NameKind)} {mg mb : Str → Option Value} {K : Frag}
theorem zip_kind {names : List (Str × NameKind)} {b : Nat} (hn : (names.map (·.1)).Nodup) : ∀ {ps : List Nat} {pn : List Str} {vs : List Value}, (∀ (j : Nat) (p : Nat) (x : Str), ps[j]? = some p → pn[j]? = some x → names[p]? = some (x, .local) ∨ names[p]? = some (x, .cell)) → ps.length = pn.length →
    ∀ x ∈ pn.zip vs, names.lookup x.1 = some .local ∨ (names.lookup x.1 = some .cell ∧ ((cellsFrom b names []).lookup x.1).isSome = true)
  | p :: ps, y :: pn, v :: vs, hp, hl, x, hx => by
    rw [List.zip_cons_cons] at hx
    rcases List.mem_cons.mp hx with rfl | hx
    · rcases hp 0 p y rfl rfl with h | h
      · exact .inl (lookup_at hn h)
      · refine .inr ⟨lookup_at hn h, ?_⟩
        obtain ⟨c, hc⟩ := cellsFrom_has (b := b) (acc := []) (List.mem_of_getElem? h)
        obtain ⟨c', hc'⟩ := lookup_some hc
        rw [hc']; rfl
    · exact zip_kind hn (fun j q z e1 e2 => hp (j + 1) q z (by simpa using e1) (by simpa using e2)) (by simpa using hl) x hx
  | [], [], _, _, _, _, hx => by simp at hx
  | _ :: _, _ :: _, [], _, _, _, hx => by simp at hx
  | [], _ :: _, _, _, hl, _, _ => by simp at hl
  | _ :: _, [], _, _, hl, _, _ => by simp at hl
/-- what a frame leaves, for its caller -/
theorem fin_of {env : Env} {nm : List (Str × NameKind)} {own : List Addr} {φ φ' : List Addr} {ρ : Lo} {σ' : Hp} {h h₁ h' : Heap} {L : Nat} (x : HExt h h₁) (hown : ∀ b ∈ own, h.get? b = none) (hlen : φ.length = L) (X : Stp (Ft ⟨L, []⟩ own φ) φ h₁ φ' h') (S' : Stt hB C env nm own ⟨L, []⟩ φ' ρ σ' h') : Fin1 hB C φ h φ' σ' h' := by
  refine ⟨S'.sto, fun b o e => ?_, ?_⟩
  · refine X.keep b o (x b o e) fun q => ?_
    rcases q with q | ⟨i, hi, e'⟩
    · rw [hown b q] at e; cases e
    · have h1 := mut_n0 hi
      have h2 := (List.getElem?_eq_some_iff.mp e').1
      rw [hlen] at h2
      have h1 : L ≤ i := h1
      omega
  · obtain ⟨t, rfl, ht⟩ := X.pre
    refine ⟨t, rfl, fun b hb => ?_⟩
    cases q : h.get? b with
    | none => rfl
    | some o => have := x b o q; rw [ht b hb] at this; cases this
theorem FK_def {a : Addr} {fd : FuncData} {body : List Stmt} {pn : List Str} {ps : List Nat} {c : CS} {nv : Nat} (D : Dfn hB a fd body pn) (N : Nms fd.scope.names ps pn) (hlim : hB.NoLimit) (hnv : fd.scope.names.length = nv) (hb : SB prog w hB C n fd.scope.names body c) :
    FK prog w hB C (n + 1) (.ref a) (fDef nv ps c) := by
  subst hnv
  intro A φ σ s vs ms mv σ' hA S r e R G
  obtain ⟨ρ, e1, e2⟩ := fDef_some e
  obtain ⟨f, ρ', e3, e4⟩ := retF_some e2
  obtain ⟨o, ho, hod⟩ := D.ho
  have hlen : vs.length = pn.length := by rw [r.length, ← bindP_length e1, N.len]
  refine codeAny_call_cells (by have := hA.depth; show _ < 1000; omega) (S.base _ _ ho) hod (hlim.keeps S.base) (D.code.keeps S.base) D.body_ (D.bind vs hlen) D.clo (zip_kind N.nd N.par N.len) (fun s₁ x => ?_) D.co D.gen D.kind
  have S₁ := callee_stt D N S r e1 x
  obtain ⟨h₁, tk₁, rfl⟩ := x.toInCall.same
  refine hb (A.deeper _) _ _ ⟨σ.length, []⟩ φ ρ σ _ f ρ' σ' ⟨hA.handled, by have := hA.depth; show A.depth + 1 + n ≤ 900; omega, by have := hA.units; show A.units + 3 + 10 * n ≤ 9000; omega⟩ S₁ e3 _ _ fun fl φ' h' tk X S' rf => ?_
  have hown : ∀ b ∈ s.heap.objs.size :: cellAd fd.scope.names (cellsFrom (s.heap.objs.size + 1) fd.scope.names []), s.heap.get? b = none := fun b hb => by
    rcases List.mem_cons.mp hb with rfl | hb
    · exact get?_size _
    · obtain ⟨y, _, hl⟩ := cellAd_mem hb
      exact Heap.get?_none_of_le (Nat.le_of_lt (x.above y b (PySem.mem_of_lookup hl)))
  have fin := fin_of (x.toInCall.keep) hown S.len X S'
  rcases e4 with ⟨rfl, rfl⟩ | rfl
  · cases rf
    exact G .none φ' h' tk fin rfl
  · obtain ⟨u, rfl, ru⟩ := rf
    exact G u φ' h' tk fin ru
/-- the caller, behind a call -/
theorem resume_fin {env : Env} {own : List Addr} {k : Kx} {φ φ' : List Addr} {ρ : Lo} {σ σ' : Hp} {h h' : Heap} (S : Stt hB C env nm own k φ ρ σ h) (f : Fin1 hB C φ h φ' σ' h') : Stp (Ft k own φ) φ h φ' h' ∧ Stt hB C env nm own k φ' ρ σ' h' := by
  obtain ⟨t, rfl, ht⟩ := f.pre
  refine ⟨⟨⟨t, rfl, ht⟩, fun b o e _ => f.ext b o e, fun b o e => ⟨o, f.ext b o e⟩⟩, ?_⟩
  exact {
    names := S.names, ocel := S.ocel, kind := S.kind, glob := S.glob, blt := S.blt, ndn := S.ndn, locl := S.locl, cinj := S.cinj, cnm := S.cnm, hown := S.hown
    base := f.sto.base, len := f.sto.len, obj := f.sto.obj
    loc := by
      obtain ⟨m, ⟨o, es, ep, g, g', g''⟩, hm⟩ := S.loc
      refine ⟨m, ⟨o, es, ep, f.ext _ _ g, g', g''⟩, fun i x mv e q => ?_⟩
      obtain ⟨v, e', r⟩ := hm i x mv e q
      exact ⟨v, e', r.mono⟩
    cel := fun i y kd e q => by
      obtain ⟨c, o', a', ⟨o'', b, b'⟩, r'⟩ := S.cel i y kd e q
      refine ⟨c, o', a', ⟨o'', f.ext _ _ b, b'⟩, fun mv q => ?_⟩
      obtain ⟨v, e', r⟩ := r' mv q
      exact ⟨v, e', r.mono⟩
    nd := by
      rw [← List.append_assoc]
      refine List.nodup_append.mpr ⟨S.nd, (List.nodup_append.mp f.sto.nd).2.1, fun a ha b hb e => ?_⟩
      subst e
      rcases List.mem_append.mp ha with ha | ha
      · obtain ⟨o, e⟩ := S.olt a ha; rw [ht a hb] at e; cases e
      · obtain ⟨i, e⟩ := List.getElem?_of_mem ha
        obtain ⟨o, e⟩ := S.plt e
        rw [ht a hb] at e; cases e
    olt := fun b hb => by obtain ⟨o, e⟩ := S.olt b hb; exact ⟨o, f.ext b o e⟩
    hphi := fun i a hi e => by
      by_cases q : i < φ.length
      · rw [List.getElem?_append_left q] at e; exact S.hphi i a hi e
      · rw [List.getElem?_append_right (by omega)] at e
        have := ht a (List.mem_of_getElem? e)
        cases w : hB.get? a with
        | none => rfl
        | some o => rw [S.base a o w] at this; cases this
    n0 := by
      have h1 := S.n0
      have h2 := f.sto.len
      rw [List.length_append] at h2
      have h3 := S.len
      omega }
/-- a def called, from a frame -/
theorem call_FK {A : Around} {env : Env} {own : List Addr} {k : Kx} {φ : List Addr} {ρ : Lo} {σ σ' : Hp} {s : Shared} {f : Value} {F : FS} {vs : List Value} {ms : List MV} {mv : MV} (hF : FK prog w hB C n f F) (hA : AOK n A) (S : Stt hB C env nm own k φ ρ σ s.heap) (r : VRs φ vs ms) (e : F σ ms = some (mv, σ'))
    {Q : Value → Shared → Prop} {E : Value → Shared → Prop} (G : Gv hB C env nm own k φ ρ σ' mv s Q) : wpAny (model prog w) A (call f vs) Q E s := by
  refine wpAny_call (hF A φ σ s vs ms mv σ' hA S.sto r e _ fun v φ' h' tk fin rv => ?_)
  obtain ⟨x, S'⟩ := resume_fin S fin
  exact G v φ' h' tk x S' rv
/-- the global name x of the frame is bound to the function at a -/
structure Gn (nm : List (Str × NameKind)) (mg : Str → Option Value) (x : Str) (a : Addr) : Prop where
  at_ : ∃ i : Nat, nm[i]? = some (x, .globalImplicit)
  bound : mg x = some (.ref a)
  db : (x == ("__debug__" : Str)) = false
theorem name_gl {A : Around} {env : Env} {own : List Addr} {k : Kx} {φ : List Addr} {ρ : Lo} {σ : Hp} {s : Shared} {x : Str} {a : Addr} {p : Pos} {Q : Value → Shared → Prop} {E : Value → Shared → Prop} (Gl : Glb hB mg mb) (B : Gn nm mg x a)
    (S : Stt hB C env nm own k φ ρ σ s.heap) (h : Q (.ref a) s) : wpAny (model prog w) A (eval (.Name x p) env) Q E s := by
  obtain ⟨i, e⟩ := B.at_
  refine Calls.Name_function_global S.kind ((S.names i x _ e).resolve_right fun q => nomatch q.1) (Calls.loadGlobal_global (mg := mg) ?_ B.bound h) B.db
  rw [S.glob]; exact Gl.g.keeps S.base
theorem SE_call {x : Str} {a : Addr} {o : Obj} {fd : FuncData} {np p : Pos} {es : List Expr} {cs : List CE} {F : FS} (Gl : Glb hB mg mb) (B : Gn nm mg x a) (ho : hB.get? a = some o) (hod : o.data = .func fd) (hF : FK prog w hB C n (.ref a) F) (h : SEs prog w hB C n nm es cs) (hne : es ≠ [])
    (ht : ∀ env, backTo p (starEach es env) = es.map fun e => (false, eval e env)) : SE prog w hB C n nm (.Call (.Name x np) es [] p) (cCall F cs) := by
  intro A env own k φ ρ σ s mv σ' hA S e Q E G
  obtain ⟨ms, σ₁, e1, e⟩ := bnd_some.mp e
  refine Call_Name (ht env) (name_gl Gl B S ?_)
  obtain ⟨e₀, es', rfl⟩ : ∃ e₀ es', es = e₀ :: es' := by
    cases es with
    | nil => exact absurd rfl hne
    | cons a b => exact ⟨a, b, rfl⟩
  refine Calls.callWith_function (o := o) (fd := fd) (Calls.evalArgs_plain (args_any (es := e₀ :: es') hA h S e1 fun vs φ₁ h₁ tk₁ x₁ S₁ r₁ => ⟨⟨S₁.base a o ho, hod⟩, ?_⟩))
  exact call_FK (s := { s with heap := h₁, toks := tk₁ }) hF hA S₁ r₁ e (G.from x₁)

/-! ## methods of the class -/
theorem SE_im {x : Expr} {name : Str} {a : Addr} {o : Obj} {fd : FuncData} {ap p : Pos} {cx : CE} {es : List Expr} {cs : List CE} {F : FS} (X : Cls K C) (KX : K.In hB) (hm : findIn K (.ref C) name = some (some (.ref a))) (hty : typeIn K (.ref a) = some (.type "function")) (hna : name ∉ attrN)
    (ho : hB.get? a = some o) (hod : o.data = .func fd) (hF : FK prog w hB C n (.ref a) F) (hx : SE prog w hB C n nm x cx) (h : SEs prog w hB C n nm es cs) (hlen : es.length < 20)
    (hb : ∀ env, attributeBase x name env (eval x env) = eval x env) (hl : (ap.endLine == p.line) = true) (ht : ∀ env, backTo p (starEach es env) = es.map fun e => (false, eval e env)) : SE prog w hB C n nm (.Call (.Attribute x name ap) es [] p) (cIm F cx cs) := by
  intro A env own k φ ρ σ s mv σ' hA S e Q E G
  obtain ⟨a', σ₁, e1, e⟩ := bnd_some.mp e
  obtain ⟨hi, e⟩ := cnd_some.mp e
  obtain ⟨ms, σ₂, e2, e⟩ := bnd_some.mp e
  obtain ⟨j, d, as, rfl, ej, ed⟩ : ∃ j d as, a' = .ref j ∧ getO σ₁ j = some (.inst d) ∧ getO σ₁ d = some (.dict as) := by
    unfold isI at hi
    split at hi <;> try (cases hi; done)
    split at hi <;> try (cases hi; done)
    split at hi <;> try (cases hi; done)
    exact ⟨_, _, _, rfl, by assumption, by assumption⟩
  rw [arm_eval_Call, hb]
  refine wpAny_bind (hx A env own k φ ρ σ s _ σ₁ hA S e1 _ E fun va φ₁ h₁ tk₁ x₁ S₁ r₁ => wpAny_bind (wpAny_standAt ?_))
  obtain ⟨ad, dx, od, rfl, e3, I, e4, es', ep, hd, hk, hz, g1, g2⟩ := Stt.inst (s := { s with heap := h₁, toks := tk₁ }) S₁ ej ed r₁
  have hsh : shadowIn (some od) name = some false := by
    have hn : nsFind es' name = none := by
      cases q : nsFind es' name with
      | none => rfl
      | some v =>
        obtain ⟨i, mv, e5, _⟩ := g2 name v q
        exact absurd (List.mem_of_getElem? e5) hna
    have := lookIn_none hd hk hn
    unfold shadowIn
    dsimp only
    rw [this]; rfl
  have htr : ∀ (es : List Expr), (es.map fun e => (false, eval e env)).all (fun x => !x.1) = true := fun es => by
    rw [List.all_eq_true]
    intro y hy
    obtain ⟨e, _, rfl⟩ := List.mem_map.mp hy
    rfl
  have hform : methodCallForm (es.length + ([] : List Keyword).length) (backTo p (starEach es env)) (backToKw p (keywordEach [] env)) = true := by
    show ((backTo p (starEach es env)).all (fun x => !x.1) && (backToKw p (keywordEach [] env)).all (fun x => x.1.isSome) && decide (es.length + ([] : List Keyword).length + (if ([] : List Keyword).isEmpty then 0 else 1) < 30)) = true
    rw [ht env, htr es]
    show (true && true && decide (es.length + 0 + 0 < 30)) = true
    simp
    omega
  have hpos : methodCallPos true x env ap p = pure p := by unfold methodCallPos; simp [hl]
  unfold methodCall
  rw [hform]
  refine wpAny_bind (wpAny_holding (method_fn (s := { s with heap := h₁, toks := tk₁ }) (KX.keeps S₁.base) I X.hga X.hk hm hty hsh ?_))
  refine wpAny_bind (wpAny_of_eq hpos ?_)
  rw [ht env]
  refine Calls.callWith_function (o := o) (fd := fd) ?_
  have last : ∀ (vs : List Value) (φ₂ : List Addr) (h₂ : Heap) (tk₂ : Nat), Stp (Ft k own φ₁) φ₁ h₁ φ₂ h₂ → Stt hB C env nm own k φ₂ ρ σ₂ h₂ → VRs φ₂ vs ms → ((h₂.get? a = some o ∧ o.data = .func fd) ∧ wpAny (model prog w) A (call (.ref a) (.ref ad :: vs)) Q E { s with heap := h₂, toks := tk₂ }) := fun vs φ₂ h₂ tk₂ x₂ S₂ r₂ =>
    ⟨⟨S₂.base a o ho, hod⟩, call_FK (s := { s with heap := h₂, toks := tk₂ }) (vs := .ref ad :: vs) (ms := .ref j :: ms) hF hA S₂ ⟨r₁.later x₂, r₂⟩ e ((G.from x₁ (tk := tk₁)).from x₂)⟩
  cases es with
  | nil =>
    cases cs with
    | cons _ _ => exact h.elim
    | nil =>
      cases e2
      exact PySem.evalArgs_none (last [] φ₁ h₁ tk₁ .refl S₁ trivial)
  | cons e₀ es'' =>
    refine Calls.evalArgs_plain (args_any (es := e₀ :: es'') (s := { s with heap := h₁, toks := tk₁ }) hA h S₁ e2 fun vs φ₂ h₂ tk₂ x₂ S₂ r₂ => ?_)
    exact last vs φ₂ h₂ tk₂ x₂ S₂ r₂
end
end Mine
end

section
namespace Mine
open PySem PyProof.Rows PySem.W
set_option maxRecDepth 100000

theorem made_some {n : Nat} {x : RE} {mv : MV} {σ' : Hp} (h : fNew.made n x = some (mv, σ')) : x = some (.none, σ') ∧ mv = .ref n := by
  obtain ⟨v, σ₁, e1, e⟩ := bnd_some.mp h
  cases v <;> try (cases e; done)
  cases e
  exact ⟨e1, rfl⟩
theorem fNew_some {nv : Nat} {ps : List Nat} {c : CS} {σ σ' : Hp} {ms : List MV} {mv : MV} (h : fNew nv ps c σ ms = some (mv, σ')) :
    ∃ ρ, bindP (rep nv [none]) ps (.ref σ.length :: ms) = some ρ ∧ retF (c ⟨σ.length, []⟩ ρ (σ ++ [.inst (σ.length + 1), .dict []])) = some (.none, σ') ∧ mv = .ref σ.length := by
  unfold fNew at h
  rw [frN_eq, frN_eq, frS_eq, len_eq, app_eq, frS_eq] at h
  obtain ⟨ρ, e1, e2⟩ := bd1_some.mp h
  obtain ⟨e3, e4⟩ := made_some e2
  exact ⟨ρ, e1, e3, e4⟩
section
variable {prog : Program} {w : World} {hB : Heap} {C : Addr} {n : Nat} {nm : List (Str × NameKind)} {mg mb : Str → Option Value} {K : Frag}
theorem phi_live {φ : List Addr} {σ : Hp} {h : Heap} (S : Sto hB C φ σ h) {a : Addr} (ha : a ∈ φ) : ∃ o, h.get? a = some o := by
  obtain ⟨i, e⟩ := List.getElem?_of_mem ha
  have hi := (List.getElem?_eq_some_iff.mp e).1
  rw [S.len] at hi
  obtain ⟨b, o, e1, e2, _⟩ := S.obj i σ[i] (by simp [hi])
  rw [e] at e1; cases e1
  exact ⟨o, e2⟩
theorem FK_new {fI : Addr} {fd : FuncData} {body : List Stmt} {pn : List Str} {ps : List Nat} {c : CS} {nv : Nat} (X : Cls K C) (KX : K.In hB) (hi : findIn K (.ref C) "__init__" = some (some (.ref fI))) (hf : typeIn K (.ref fI) = some (.type "function"))
    (D : Dfn hB fI fd body pn) (N : Nms fd.scope.names ps pn) (hlim : hB.NoLimit) (hnv : fd.scope.names.length = nv) (hb : SB prog w hB C n fd.scope.names body c) :
    FK prog w hB C (n + 2) (.ref C) (fNew nv ps c) := by
  subst hnv
  intro A φ σ s vs ms mv σ' hA S r e R G
  obtain ⟨ρ, e1, e2, rfl⟩ := fNew_some e
  obtain ⟨f, ρ', e3, e4⟩ := retF_some e2
  obtain ⟨hh, g, d, t, os⟩ := s
  have S : Sto hB C φ σ hh := S
  have X' := KX.keeps S.base
  refine make_core (makes_of X' X.makes) (looks_findIn X' hi) (fun self => bind_fn X' self hf) (.inl rfl) ?_
  have y1 : HExt hh (hh.push emptyDict) := HExt.push
  have y2 : HExt (hh.push emptyDict) ((hh.push emptyDict).push (instObj C hh.objs.size)) := HExt.push
  have y : HExt hh ((hh.push emptyDict).push (instObj C hh.objs.size)) := fun b o e => y2 b o (y1 b o e)
  have g1 : ((hh.push emptyDict).push (instObj C hh.objs.size)).get? hh.objs.size = some emptyDict := y2 _ _ (Heap.get?_push_size _ rfl)
  have g2 : ((hh.push emptyDict).push (instObj C hh.objs.size)).get? (hh.objs.size + 1) = some (instObj C hh.objs.size) := by
    have := Heap.get?_push_size (hh.push emptyDict) (o := instObj C hh.objs.size) rfl
    rwa [Heap.size_push] at this
  have n1 : hh.get? hh.objs.size = none := get?_size _
  have n2 : hh.get? (hh.objs.size + 1) = none := Heap.get?_none_of_le (Nat.le_succ _)
  have S2 : Sto hB C (φ ++ [hh.objs.size + 1, hh.objs.size]) (σ ++ [.inst (σ.length + 1), .dict []]) ((hh.push emptyDict).push (instObj C hh.objs.size)) := by
    refine ⟨by simp [S.len], fun i mo hmo => ?_, ?_, fun b o e => y b o (S.base b o e)⟩
    · by_cases q : i < σ.length
      · rw [List.getElem?_append_left q] at hmo
        obtain ⟨a, o, h1, h2, h3⟩ := S.obj i mo hmo
        exact ⟨a, o, by rw [List.getElem?_append_left (by rw [S.len]; exact q)]; exact h1, y _ _ h2, h3.mono⟩
      · rw [List.getElem?_append_right (by omega)] at hmo
        rw [List.getElem?_append_right (by rw [S.len]; omega), S.len]
        generalize i - σ.length = j at hmo
        match j, hmo with
        | 0, hmo =>
          cases hmo
          exact ⟨_, _, rfl, g2, hh.objs.size, by rw [List.getElem?_append_right (by rw [S.len]; omega), S.len]; simp, rfl⟩
        | 1, hmo =>
          cases hmo
          exact ⟨_, _, rfl, g1, #[], _, rfl, (fun e he => by simp at he), Nat.le_refl _, (fun a mv h => by cases h), fun x v h => by cases h⟩
        | j + 2, hmo => simp at hmo
    · refine List.nodup_append.mpr ⟨S.nd, by simp, fun a ha b hb q => ?_⟩
      subst q
      obtain ⟨o, ho⟩ := phi_live S ha
      rcases List.mem_cons.mp hb with rfl | hb
      · rw [n2] at ho; cases ho
      · rw [List.mem_singleton.mp hb, n1] at ho; cases ho
  have r2 : VRs (φ ++ [hh.objs.size + 1, hh.objs.size]) (.ref (hh.objs.size + 1) :: vs) (.ref σ.length :: ms) := ⟨⟨_, by rw [List.getElem?_append_right (by rw [S.len]; omega), S.len]; simp, rfl⟩, r.mono⟩
  obtain ⟨o, ho, hod⟩ := D.ho
  have hbase := S2.base
  have hlen : (Value.ref (hh.objs.size + 1) :: vs).length = pn.length := by rw [r2.length, ← bindP_length e1, N.len]
  have hd := hA.depth
  have hu := hA.units
  refine codeAny_call_cells (by show A.depth + 1 < 1000; omega) (hbase _ _ ho) hod (hlim.keeps hbase) (D.code.keeps hbase) D.body_ (D.bind _ hlen) D.clo (zip_kind N.nd N.par N.len) (fun s₁ x => ?_) D.co D.gen D.kind
  have S₁ := callee_stt (s := ⟨(hh.push emptyDict).push (instObj C hh.objs.size), g, d, t, os⟩) D N S2 r2 e1 x
  obtain ⟨h₁, tk₁, rfl⟩ := x.toInCall.same
  have S₃ : Stt hB C (callEnvC fd ((hh.push emptyDict).push (instObj C hh.objs.size)).objs.size fI) fd.scope.names _ ⟨σ.length, []⟩ (φ ++ [hh.objs.size + 1, hh.objs.size]) ρ (σ ++ [.inst (σ.length + 1), .dict []]) h₁ :=
    { S₁ with
      hphi := fun i a hi h => by
        have hi : σ.length ≤ i := hi
        rw [List.getElem?_append_right (by rw [S.len]; exact hi)] at h
        have hm := List.mem_of_getElem? h
        have hn : hh.get? a = none := by
          rcases List.mem_cons.mp hm with rfl | hm
          · exact n2
          · rw [List.mem_singleton.mp hm]; exact n1
        cases q : hB.get? a with
        | none => rfl
        | some o => rw [S.base a o q] at hn; cases hn
      n0 := by show σ.length ≤ _; simp }
  refine hb ((A.under (.builtin "type.__call__" ⟨.ref C :: vs, []⟩)).deeper _) _ _ ⟨σ.length, []⟩ _ ρ _ _ f ρ' σ' ⟨hA.handled, by show A.depth + 1 + 1 + n ≤ 900; omega, by show A.units + 1 + 3 + 10 * n ≤ 9000; omega⟩ S₃ e3 _ _ fun fl φ' h' tk Y S' rf => ?_
  refine ⟨?_, ?_⟩
  · rcases e4 with ⟨rfl, _⟩ | rfl
    · cases rf; rfl
    · obtain ⟨u, rfl, ru⟩ := rf; cases ru; rfl
  have hown : ∀ b ∈ ((hh.push emptyDict).push (instObj C hh.objs.size)).objs.size :: cellAd fd.scope.names (cellsFrom (((hh.push emptyDict).push (instObj C hh.objs.size)).objs.size + 1) fd.scope.names []), hh.get? b = none := fun b hb => by
    refine Heap.get?_none_of_le ?_
    have hs : hh.objs.size ≤ ((hh.push emptyDict).push (instObj C hh.objs.size)).objs.size := by rw [Heap.size_push, Heap.size_push]; omega
    rcases List.mem_cons.mp hb with rfl | hb
    · exact hs
    · obtain ⟨z, _, hl⟩ := cellAd_mem hb
      exact Nat.le_trans hs (Nat.le_of_lt (x.above z b (PySem.mem_of_lookup hl)))
  have y3 : HExt hh h₁ := fun b o e => x.toInCall.keep b o (y b o e)
  obtain ⟨t', rfl, ht'⟩ := Y.pre
  have fin : Fin1 hB C φ hh (φ ++ [hh.objs.size + 1, hh.objs.size] ++ t') σ' h' := by
    refine ⟨S'.sto, fun b o e => Y.keep b o (y3 b o e) fun q => ?_, ⟨[hh.objs.size + 1, hh.objs.size] ++ t', by simp, fun b hb => ?_⟩⟩
    · rcases q with q | ⟨i, hi, e'⟩
      · rw [hown b q] at e; cases e
      · have h1 : σ.length ≤ i := mut_n0 hi
        rw [List.getElem?_append_right (by rw [S.len]; exact h1)] at e'
        have hm := List.mem_of_getElem? e'
        rcases List.mem_cons.mp hm with rfl | hm
        · rw [n2] at e; cases e
        · rw [List.mem_singleton.mp hm, n1] at e; cases e
    · rcases List.mem_append.mp hb with hb | hb
      · rcases List.mem_cons.mp hb with rfl | hb
        · exact n2
        · rw [List.mem_singleton.mp hb]; exact n1
      · cases q : hh.get? b with
        | none => rfl
        | some o => have := y3 b o q; rw [ht' b hb] at this; cases this
  exact G _ _ h' tk fin ⟨hh.objs.size + 1, by rw [List.append_assoc, List.getElem?_append_right (by rw [S.len]; omega), S.len]; simp, rfl⟩
theorem SE_new {x : Str} {np p : Pos} {e₀ : Expr} {c₀ : CE} {F : FS} (KX : K.In hB) (Gl : Glb hB mg mb) (B : Gn nm mg x C) (hk : keepIn K (.ref C) = true) (hF : FK prog w hB C n (.ref C) F) (h : SE prog w hB C n nm e₀ c₀)
    (hse : ∀ env, starEach [e₀] env = [(false, eval e₀ env)]) : SE prog w hB C n nm (.Call (.Name x np) [e₀] [] p) (cNew F c₀) := by
  intro A env own k φ ρ σ s mv σ' hA S e Q E G
  obtain ⟨m₀, σ₁, e1, e⟩ := bnd_some.mp e
  refine Call_Name rfl (name_gl Gl B S ?_)
  refine callWith_K (h₀ := hB) KX hk ?_ (hse env) rfl
  rw [hse env]
  refine Calls.spliced_cons (h A env own k φ ρ σ s m₀ σ₁ hA S e1 _ E fun v φ₁ h₁ tk₁ x₁ S₁ r₁ => Calls.spliced_nil ⟨KX.keeps S₁.base, ?_⟩)
  exact call_FK (s := { s with heap := h₁, toks := tk₁ }) (vs := [v]) (ms := [m₀]) hF hA S₁ ⟨r₁, trivial⟩ e (G.from x₁)
end
end Mine
end

section
namespace Mine
open PySem PyProof.Rows PySem.W
set_option maxRecDepth 100000

section
variable {prog : Program} {w : World} {A : Around} {R : Result → Shared → Prop} {s : Shared}
def TestsOf (ifs : List Expr) (env : Env) : Sem Bool := forIn ifs true fun c r => if r = true then do let ok ← isTrue c env (eval c env); pure (ForInStep.yield ok) else pure (ForInStep.yield r)
/-- the form of a turn -/
def TurnIs (e : Expr) (depth : Nat) (target : Expr) (ip : Pos) (ifs : List Expr) (emit : Value → Env → Sem Unit) : Prop := ∀ (it acc : Value) (env : Env),
  compTurn e depth it acc env = (standAt ip >>= fun _ => pyNext it >>= fun r => match r with
    | none => pure (.done .next)
    | some v => letOwnedTupleGo target it v >>= fun _ => assign target env v >>= fun _ => TestsOf ifs env >>= fun ok =>
      if ok = true then emit acc env >>= fun _ => again (.compLoop e depth it acc env) else again (.compLoop e depth it acc env))
def emit0 (elt : Expr) (acc : Value) (env : Env) : Sem Unit := do
  let _ ← call (.builtin "list.append") [acc, ← eval elt env]
theorem turnIs_one (elt target iter : Expr) (ifs : List Expr) (scope : Scope) (pos : Pos) : TurnIs (.ListComp elt [⟨target, iter, ifs, 0⟩] scope pos) 0 target iter.pos ifs (emit0 elt) := fun _ _ _ => rfl
theorem codeAny_compLoop_own {e elt : Expr} {gens : List Comprehension} {scope : Scope} {pos : Pos} (he : e = .ListComp elt gens scope pos) {depth : Nat} {it acc : Value} {env : Env} {target : Expr} {ip : Pos} {ifs : List Expr} {emit : Value → Env → Sem Unit} (ht : TurnIs e depth target ip ifs emit) (I : Nat → Shared → Prop)
    (turn : ∀ n s, I n s → wpAny (model prog w) A (pyNext it) (fun r s₁ => match r with
      | none => R (.ok .next) s₁
      | some v => wpAny (model prog w) A (letOwnedTupleGo target it v) (fun _ s₁ => wpAny (model prog w) A (assign target env v) (fun _ s₂ => wpAny (model prog w) A (TestsOf ifs env) (fun ok s₃ =>
            if ok = true then wpAny (model prog w) A (emit acc env) (fun _ s₅ => ∃ m, m < n ∧ I m s₅) (notedBy (model prog w) A env fun e s' => R (.error e) s') s₃
            else ∃ m, m < n ∧ I m s₃) (notedBy (model prog w) A env fun e s' => R (.error e) s') s₂) (notedBy (model prog w) A env fun e s' => R (.error e) s') s₁) (notedBy (model prog w) A env fun e s' => R (.error e) s') s₁) (notedBy (model prog w) A env fun e s' => R (.error e) s') s)
    (n : Nat) (h : I n s) : codeAny (model prog w) A (.compLoop e depth it acc env) R s := by
  subst he
  refine codeAny_loop rfl I (fun n s hI => ?_) n h
  show wpAny _ A ((compTurn (.ListComp elt gens scope pos) depth it acc env).onRaise (fun x => do noteFrame x env; theTreesLotGoes x)) _ _ s
  refine wpAny_noted ?_
  rw [ht]
  refine wpAny_bind (wpAny_standAt (wpAny_bind (wpAny_mono (turn n s hI) (fun r s₁ h₁ => ?_) fun _ _ h' => h')))
  cases r with
  | none => exact wpAny_pure h₁
  | some v =>
    refine wpAny_bind (wpAny_mono h₁ (fun _ s₁ h₁ => ?_) fun _ _ h' => h')
    refine wpAny_bind (wpAny_mono h₁ (fun _ s₂ h₂ => wpAny_bind (wpAny_mono h₂ (fun ok s₃ h₃ => ?_) fun _ _ h' => h')) fun _ _ h' => h')
    cases ok with
    | false => exact wpAny_pure ⟨rfl, h₃⟩
    | true => exact wpAny_bind (wpAny_mono h₃ (fun _ s₅ h₅ => wpAny_pure ⟨rfl, h₅⟩) fun _ _ h' => h')
theorem codeAny_compStart_own {e elt : Expr} {gens : List Comprehension} {scope : Scope} {pos : Pos} (he : e = .ListComp elt gens scope pos) {depth : Nat} {it acc : Value} {env : Env} {g : Comprehension} (hg : (clausesOf e)[depth]? = some g) (ha : g.is_async = 0)
    (h0 : codeAny (model prog w) A (.compLoop e depth it acc env) R s)
    (h : wpAny (model prog w) A (pyIter it) (fun it' s' => codeAny (model prog w) A (.compLoop e depth it' acc env) R s') (notedBy (model prog w) A env fun x s' => R (.error x) s') s) :
    codeAny (model prog w) A (.compStart e depth it acc env) R s := by
  subst he
  refine codeAny_of_tree ?_
  show wpAny _ _ ((compStart (.ListComp elt gens scope pos) depth it acc env).onRaise (fun x => do noteFrame x env; standAt theWindowsPlace)) _ _ s
  refine wpAny_notedAt ?_
  unfold compStart
  rw [hg]
  have hz : (some g : Option Comprehension).elim false (fun x => x.is_async != 0) = false := by
    show (g.is_async != 0) = false
    rw [ha]; rfl
  simp only [hz, Bool.false_eq_true, if_false]
  refine wpAny_bind (wpAny_askSetting (wpAny_ite ?_))
  split
  · exact wpAny_bind (wpAny_pure (wpAny_pure (And.intro rfl h0)))
  · refine wpAny_bind (wpAny_rule (wpAny_bind (wpAny_standAt (wpAny_bind (wpAny_mono h (fun it' s' h' => wpAny_pure (And.intro rfl h')) fun _ _ x => x)))))
end
end Mine
end

section
namespace Mine
open PySem PyProof.Rows PySem.W
set_option maxRecDepth 100000

def Nx (cs : CS) : Prop := ∀ k ρ σ mf ρ' σ', cs k ρ σ = some (mf, ρ', σ') → mf = .next
theorem Nx_gEmit {acc : Nat} {e : CE} : Nx (gEmit acc e) := fun k ρ σ mf ρ' σ' h => by
  obtain ⟨_, _, _, h⟩ := bnd_some.mp h
  obtain ⟨_, _, _, h⟩ := bnd_some.mp h
  cases h; rfl
theorem nxtO_some {α : Type} {x : RS} {f : Lo → Hp → Option α} {y : α} : nxtO x f = some y ↔ ∃ ρ σ, x = some (.next, ρ, σ) ∧ f ρ σ = some y := by
  unfold nxtO
  split
  · exact ⟨fun h => ⟨_, _, rfl, h⟩, fun ⟨_, _, e, h⟩ => by cases e; exact h⟩
  · rename_i hne
    exact ⟨fun h => (nomatch h), fun ⟨ρ, σ, e, h⟩ => absurd e (hne ρ σ)⟩
theorem Nx_nil {c : CS} (h : Nx c) : Nx (gIfs [] c) := h
theorem Nx_one {t : CT} {c : CS} (h : Nx c) : Nx (gIfs [t] c) := fun k ρ σ mf ρ' σ' e => by
  have e : bnd (t k ρ σ) (fun b σ => cnd b (c k ρ σ) (some (.next, ρ, σ))) = some (mf, ρ', σ') := e
  obtain ⟨b, σ₁, _, e⟩ := bnd_some.mp e
  rw [cnd_eq] at e
  split at e
  · exact h _ _ _ _ _ _ e
  · cases e; rfl
section
variable {prog : Program} {w : World} {hB : Heap} {C : Addr} {n : Nat} {nm : List (Str × NameKind)}
/-- what an item's turn does, its target bound -/
def EM (prog : Program) (w : World) (hB : Heap) (C : Addr) (n : Nat) (nm : List (Str × NameKind)) (acc : Nat) (emit : Value → Env → Sem Unit) (cs : CS) : Prop :=
  ∀ (A : Around) (env : Env) (own : List Addr) (k : Kx) (φ : List Addr) (ρ : Lo) (σ : Hp) (s : Shared) (ρ' : Lo) (σ' : Hp) (D : Addr), AOK n A → Stt hB C env nm own k φ ρ σ s.heap → φ[acc]? = some D → cs k ρ σ = some (.next, ρ', σ') →
    ∀ (Q : Unit → Shared → Prop) (E : Value → Shared → Prop), (∀ φ' h' tk, Stp (Ft k own φ) φ s.heap φ' h' → Stt hB C env nm own k φ' ρ' σ' h' → Q () { s with heap := h', toks := tk }) → wpAny (model prog w) A (emit (.ref D) env) Q E s
def TE (prog : Program) (w : World) (hB : Heap) (C : Addr) (n : Nat) (nm : List (Str × NameKind)) (acc : Nat) (ifs : List Expr) (emit : Value → Env → Sem Unit) (cs : CS) : Prop :=
  ∀ (A : Around) (env : Env) (own : List Addr) (k : Kx) (φ : List Addr) (ρ : Lo) (σ : Hp) (s : Shared) (ρ' : Lo) (σ' : Hp) (D : Addr), AOK n A → Stt hB C env nm own k φ ρ σ s.heap → φ[acc]? = some D → cs k ρ σ = some (.next, ρ', σ') →
    ∀ (Q : Unit → Shared → Prop) (E : Value → Shared → Prop), (∀ φ' h' tk, Stp (Ft k own φ) φ s.heap φ' h' → Stt hB C env nm own k φ' ρ' σ' h' → Q () { s with heap := h', toks := tk }) →
      wpAny (model prog w) A (TestsOf ifs env) (fun ok s' => if ok = true then wpAny (model prog w) A (emit (.ref D) env) Q E s' else Q () s') E s
theorem Stp.idx {F : Addr → Prop} {φ φ' : List Addr} {h h' : Heap} (x : Stp F φ h φ' h') {i : Nat} {a : Addr} (e : φ[i]? = some a) : φ'[i]? = some a := by
  obtain ⟨u, rfl, _⟩ := x.pre
  rw [List.getElem?_append_left (List.getElem?_eq_some_iff.mp e).1]; exact e
theorem TE_nil {acc : Nat} {emit : Value → Env → Sem Unit} {c : CS} (h : EM prog w hB C n nm acc emit c) : TE prog w hB C n nm acc [] emit (gIfs [] c) := by
  intro A env own k φ ρ σ s ρ' σ' D hA S hD e Q E G
  refine wpAny_tests_nil ?_
  rw [if_pos rfl]
  exact h A env own k φ ρ σ s ρ' σ' D hA S hD e Q E G
theorem TE_one {acc : Nat} {t : Expr} {ct : CT} {emit : Value → Env → Sem Unit} {c : CS} (ht : ST prog w hB C n nm t ct) (h : EM prog w hB C n nm acc emit c) : TE prog w hB C n nm acc [t] emit (gIfs [ct] c) := by
  intro A env own k φ ρ σ s ρ' σ' D hA S hD e Q E G
  have e : bnd (ct k ρ σ) (fun b σ => cnd b (c k ρ σ) (some (.next, ρ, σ))) = some (.next, ρ', σ') := e
  obtain ⟨b, σ₁, e1, e⟩ := bnd_some.mp e
  rw [cnd_eq] at e
  refine wpAny_tests_one (ht A env own k φ ρ σ s b σ₁ hA S e1 _ E fun φ₁ h₁ tk₁ x₁ S₁ => ?_)
  cases b with
  | true =>
    rw [if_pos rfl] at e ⊢
    exact h A env own k _ ρ σ₁ { s with heap := h₁, toks := tk₁ } ρ' σ' D hA S₁ (x₁.idx hD) e Q E fun φ' h' tk y S' => G φ' h' tk (x₁.trans y) S'
  | false =>
    rw [if_neg (by simp)] at e ⊢
    cases e
    exact G φ₁ h₁ tk₁ x₁ S₁
theorem EM_emit {acc : Nat} {elt : Expr} {ce : CE} (he : SE prog w hB C n nm elt ce) : EM prog w hB C n nm acc (emit0 elt) (gEmit acc ce) := by
  intro A env own k φ ρ σ s ρ' σ' D hA S hD e Q E G
  obtain ⟨v, σ₁, e1, e⟩ := bnd_some.mp e
  obtain ⟨u, σ₂, e2, e⟩ := bnd_some.mp e
  cases e
  unfold emit0
  refine wpAny_bind (he A env own k φ ρ σ s v σ₁ hA S e1 _ E fun va φ₁ h₁ tk₁ x₁ S₁ r₁ => ?_)
  refine wpAny_bind (append_ok (a := .ref acc) (s := { s with heap := h₁, toks := tk₁ }) S₁ ⟨D, x₁.idx hD, rfl⟩ r₁ e2 fun v' φ' h' tk y S' _ => wpAny_pure ?_)
  exact G φ' h' tk (x₁.trans y) S'
/-- a comprehension's clause runs -/
theorem comp_loop {A : Around} {env : Env} {own : List Addr} {k : Kx} {φ₀ : List Addr} {ρ₀ ρ' : Lo} {σ₀ σ' : Hp} {s : Shared} {target : Expr} {cb : CS} {I : Addr} {fp wr : List Addr} {N : Nat}
    {P Md : Nat → Value → Heap → Prop} {St : Nat → Heap → Prop} {R : Result → Shared → Prop} {ex elt : Expr} {gens : List Comprehension} {scope : Scope} {pos : Pos} {depth acc : Nat} {ip : Pos} {ifs : List Expr} {emit : Value → Env → Sem Unit} {D : Addr}
    (he : ex = .ListComp elt gens scope pos) (ht : TurnIs ex depth target ip ifs emit) (hb : TE prog w hB C n nm acc ifs emit cb) (hx : Nx cb) (hA : AOK n A) (W : W.KTurns prog w A target I fp wr N P Md St)
    (live : ∀ i h, St i h → ∀ b ∈ fp, ∃ o, h.get? b = some o) (bindAt : Nat → Hp → Lo → Option Lo) (hasg : Binds prog w hB C nm A env own k φ₀ target P bindAt)
    (lp : Nat → Lo → Hp → RS) (lp0 : ∀ ρ σ, lp N ρ σ = some (.next, ρ, σ)) (lpS : ∀ i ρ σ, i < N → lp i ρ σ = bd1 (bindAt i σ ρ) fun ρ => turnOn (cb k ρ σ) (lp (i + 1)))
    (S : Stt hB C env nm own k φ₀ ρ₀ σ₀ s.heap) (st : St 0 s.heap) (hfp : ∀ b ∈ fp, ¬ Ft k own φ₀ b) (hal : ∀ b ∈ wr, Alien hB env own φ₀ b) (hD : φ₀[acc]? = some D)
    (e : lp 0 ρ₀ σ₀ = some (.next, ρ', σ'))
    (hR : ∀ φ' h' h'' tk, Stw wr (Ft k own φ₀) φ₀ s.heap φ' h' → (∀ b o, b ∉ wr → h'.get? b = some o → h''.get? b = some o) → Stt hB C env nm own k φ' ρ' σ' h'' → R (.ok .next) { s with heap := h'', toks := tk }) :
    codeAny (model prog w) A (.compLoop ex depth (.ref I) (.ref D) env) R s := by
  obtain ⟨J, mk, el⟩ : ∃ J : Nat → Shared → Prop, (∀ i φ ρ σ h tk, i ≤ N → Stt hB C env nm own k φ ρ σ h → St i h → Stw wr (Ft k own φ₀) φ₀ s.heap φ h → lp i ρ σ = some (.next, ρ', σ') → J (N + 1 - i) { s with heap := h, toks := tk }) ∧
      ∀ m s', J m s' → ∃ i φ ρ σ h tk, s' = { s with heap := h, toks := tk } ∧ m = N + 1 - i ∧ i ≤ N ∧ Stt hB C env nm own k φ ρ σ h ∧ St i h ∧ Stw wr (Ft k own φ₀) φ₀ s.heap φ h ∧ lp i ρ σ = some (.next, ρ', σ') :=
    ⟨fun m s' => ∃ i φ ρ σ h tk, s' = { s with heap := h, toks := tk } ∧ m = N + 1 - i ∧ i ≤ N ∧ Stt hB C env nm own k φ ρ σ h ∧ St i h ∧ Stw wr (Ft k own φ₀) φ₀ s.heap φ h ∧ lp i ρ σ = some (.next, ρ', σ'),
      fun i φ ρ σ h tk a b c d e => ⟨i, φ, ρ, σ, h, tk, rfl, rfl, a, b, c, d, e⟩, fun _ _ h => h⟩
  refine codeAny_compLoop_own he ht J ?_ (N + 1) (mk 0 φ₀ ρ₀ σ₀ s.heap s.toks (Nat.zero_le _) S st .refl e)
  intro m s' hJ
  obtain ⟨i, φ, ρ, σ, h, tk, rfl, rfl, hi, S', st', X, e'⟩ := el m s' hJ
  obtain ⟨t, rfl, htt⟩ := X.pre
  have l0 : ∀ b ∈ fp, ∃ o, s.heap.get? b = some o := live 0 _ st
  have hal' : ∀ b ∈ wr, Alien hB env own (φ₀ ++ t) b := fun b hb => (hal b hb).later (l0 b (W.sub b hb)) htt
  have hfp' : ∀ b ∈ fp, ¬ Ft k own (φ₀ ++ t) b := fun b hb q => by
    obtain ⟨o, eo⟩ := l0 b hb
    exact hfp b hb (q.back eo htt)
  have hD' : (φ₀ ++ t)[acc]? = some D := by rw [List.getElem?_append_left (List.getElem?_eq_some_iff.mp hD).1]; exact hD
  by_cases hlt : i < N
  · rw [lpS i ρ σ hlt] at e'
    obtain ⟨ρ₁, e1, e2⟩ := bd1_some.mp e'
    obtain ⟨f, ρ₂, σ₂, ec, e3⟩ := bndS_some.mp e2
    have hf := hx _ _ _ _ _ _ ec
    subst hf
    refine W.item i _ _ _ hlt st' fun v h₁ tk₁ hMd hk₁ => ?_
    refine W.go i v _ _ _ hMd fun h₂ hP st₂ hk₂ => ?_
    have up : ∀ b o, b ∉ wr → h.get? b = some o → h₂.get? b = some o := fun b o hb z => hk₂ b o hb (hk₁ b o hb z)
    have S₂ := S'.alien hal' up
    refine hasg i v t ρ σ ρ₁ _ _ _ hP S₂ e1 fun h₃ tk₃ x₃ S₃ => ?_
    have st₃ : St (i + 1) h₃ := W.frame _ _ _ st₂ fun b hb o z => x₃.keep b o z (hfp' b hb)
    refine hb A env own k _ ρ₁ σ _ ρ₂ σ₂ D hA S₃ hD' ec _ _ fun φ₄ h₄ tk₄ x₄ S₄ => ?_
    have X₂ : Stw wr (Ft k own (φ₀ ++ t)) (φ₀ ++ t) h (φ₀ ++ t) h₂ := ⟨⟨[], by simp, fun _ z => nomatch z⟩, fun b o z _ q => up b o q z, fun b o z => by
      by_cases q : b ∈ wr
      · exact live _ _ st₂ b (W.sub b q)
      · exact ⟨o, up b o q z⟩⟩
    have X₄ := ((X.trans X₂).trans (Stp.stw x₃)).trans (Stp.stw x₄)
    exact ⟨N + 1 - (i + 1), by omega, mk (i + 1) φ₄ ρ₂ σ₂ h₄ tk₄ hlt S₄ (W.frame _ _ _ st₃ fun b hb o z => x₄.keep b o z (hfp' b hb)) X₄ e3⟩
  · have hin : i = N := by omega
    subst hin
    rw [lp0] at e'
    cases e'
    refine W.done _ _ _ st' fun h₁ tk₁ hk₁ => ?_
    exact hR _ h h₁ tk₁ X hk₁ (S'.alien hal' hk₁)
theorem comp_its {A : Around} {env : Env} {own : List Addr} {k : Kx} {φ₀ : List Addr} {ρ₀ ρ' : Lo} {σ₀ σ' : Hp} {s : Shared} {target : Expr} {cb : CS} {t : MT} {its : Its} {h₁ : Heap} {I : Addr} {fp wr : List Addr}
    {P Md : Nat → Value → Heap → Prop} {St : Nat → Heap → Prop} {R : Result → Shared → Prop} {ex elt : Expr} {gens : List Comprehension} {scope : Scope} {pos : Pos} {depth acc : Nat} {ip : Pos} {ifs : List Expr} {emit : Value → Env → Sem Unit} {D : Addr}
    (he : ex = .ListComp elt gens scope pos) (htn : TurnIs ex depth target ip ifs emit) (hb : TE prog w hB C n nm acc ifs emit cb) (hx : Nx cb) (hA : AOK n A) (ht : Tgt nm t target)
    (Di : Itd prog w hB C A env nm own k φ₀ ρ₀ σ₀ target its h₁ s.heap I fp wr P Md St) (hD : φ₀[acc]? = some D) (e : loopI t its cb k ρ₀ σ₀ = some (.next, ρ', σ'))
    (hR : ∀ φ' h' tk, Stp (Ft k own φ₀) φ₀ h₁ φ' h' → Stt hB C env nm own k φ' ρ' σ' h' → (∃ t, φ' = φ₀ ++ t ∧ ∀ a ∈ t, s.heap.get? a = none) → R (.ok .next) { s with heap := h', toks := tk }) :
    codeAny (model prog w) A (.compLoop ex depth (.ref I) (.ref D) env) R s := by
  have fin : ∀ φ' h' h'' tk, Stw wr (Ft (k.still its.fz) own φ₀) φ₀ s.heap φ' h' → (∀ b o, b ∉ wr → h'.get? b = some o → h''.get? b = some o) → Stt hB C env nm own (k.still its.fz) φ' ρ' σ' h'' → R (.ok .next) { s with heap := h'', toks := tk } :=
    fun φ' h' h'' tk x y S => hR φ' h'' tk (x.close Di.ext Di.fresh y fun b z => z.still) (S.rek (still_n0 k its.fz).symm) x.pre
  have S₀ := Di.stt.rek (k' := k.still its.fz) (still_n0 k its.fz)
  cases its with
  | plain f xs =>
    refine comp_loop (n := n) he htn hb hx hA Di.turns Di.live (fun i σ ρ => bd1 xs[i]? (bindT σ ρ t)) ?_ (fun i ρ σ => forP (cb (k.still f)) t (xs.drop i) ρ σ) ?_ ?_ S₀ Di.st Di.nft Di.ali hD e fin
    · intro i v u ρ σ ρ₁ s' K E hP S e G
      obtain ⟨m, hm, r⟩ := Di.item i v _ hP
      simp only [hm] at e
      obtain ⟨_, e0, e⟩ := bd1_some.mp e
      cases e0
      cases t with
      | one j =>
        obtain ⟨x, p, rfl, hx⟩ := ht
        have e : setK ρ j (some m) some = some ρ₁ := e
        rw [setK_eq] at e
        cases e
        exact wpAny_assign_Name (store_name S hx r.mono G)
      | many is =>
        obtain ⟨es, q, p, rfl, hn⟩ := ht
        exact assign_tup hA hn S r.mono e G
    · intro ρ σ
      show forP _ _ (xs.drop xs.length) _ _ = _
      rw [List.drop_length]; rfl
    · intro i ρ σ hi
      obtain ⟨x, e1, e2⟩ := drop_at (xs := xs) hi
      simp only [e1, e2]
      rfl
  | enum f xs =>
    cases t with
    | one j => cases e
    | many is =>
      match is, e with
      | [i₁, j₁], e =>
        obtain ⟨es, q, p, rfl, hn⟩ := ht
        refine comp_loop (n := n) he htn hb hx hA Di.turns Di.live (fun i _ ρ => bd1 xs[i]? fun m => some (setAt (setAt ρ i₁ (some (.int (.ofNat i)))) j₁ (some m))) ?_ (fun i ρ σ => forE (cb (k.still f)) i₁ j₁ (xs.drop i) i ρ σ) ?_ ?_ S₀ Di.st Di.nft Di.ali hD e fin
        · intro i v u ρ σ ρ₁ s' K E hP S e G
          obtain ⟨T, tk, y, m, rfl, hT, hm, r⟩ := Di.item i v _ hP
          simp only [hm] at e
          obtain ⟨_, e0, e⟩ := bd1_some.mp e
          cases e0
          cases e
          obtain ⟨f1, f2, f3⟩ := hn.each (env := env)
          refine wpAny_assign_Tuple (items := #[.int i tk, y]) hA.handled hT (by rw [f2]; rfl) f3 fun h' x' => ?_
          rw [f1]
          have z := HExt.but x' (get?_size _)
          refine inOrder (s := { s' with heap := h' }) hn (ms := [.int (.ofNat i), m]) (ρ' := setAt (setAt ρ i₁ (some (MV.int (Int.ofNat i)))) j₁ (some m)) ⟨⟨_, rfl⟩, r.mono, trivial⟩ (by simp only [setMany, setK_eq]) (S.ext z) fun h'' tk x₂ S₂ => ?_
          exact G h'' tk ((Stp.ext z).trans x₂) S₂
        · intro ρ σ
          show forE _ _ _ (xs.drop xs.length) _ _ _ = _
          rw [List.drop_length]; rfl
        · intro i ρ σ hi
          obtain ⟨x, e1, e2⟩ := drop_at (xs := xs) hi
          simp only [e1, e2]
          show frN i (fun n => setK ρ i₁ (some (.int (.ofNat n))) fun ρ => setK ρ j₁ (some x) fun ρ => turnOn (cb (k.still f) ρ σ) (forE (cb (k.still f)) i₁ j₁ (xs.drop (i + 1)) (Nat.add n 1))) = _
          rw [frN_eq, setK_eq, setK_eq]
          rfl
      | [], e => cases e
      | [_], e => cases e
      | _ :: _ :: _ :: _, e => cases e
end
end Mine
end

section
namespace Mine
open PySem PyProof.Rows PySem.W
set_option maxRecDepth 100000

def clo (env : Env) : List (Str × NameKind) → List (Str × Addr) → List (Str × Addr)
  | [], acc => acc
  | (x, k) :: r, acc => if k == .free then match env.cells.lookup x with
      | some c => clo env r ((x, c) :: acc)
      | none => clo env r acc
    else clo env r acc
theorem clo_mem {env : Env} : ∀ {names : List (Str × NameKind)} {acc : List (Str × Addr)} {x : Str} {c : Addr}, (x, c) ∈ clo env names acc → (x, c) ∈ acc ∨ ((x, NameKind.free) ∈ names ∧ env.cells.lookup x = some c)
  | [], _, _, _, h => .inl h
  | (y, kd) :: r, acc, x, c, h => by
    unfold clo at h
    split at h
    · rename_i hk
      cases hl : env.cells.lookup y with
      | none =>
        rw [hl] at h
        rcases clo_mem h with h | ⟨h, e⟩
        · exact .inl h
        · exact .inr ⟨List.mem_cons_of_mem _ h, e⟩
      | some d =>
        rw [hl] at h
        rcases clo_mem h with h | ⟨h, e⟩
        · rcases List.mem_cons.mp h with h | h
          · cases h
            exact .inr ⟨by rw [← eq_of_beq hk]; exact List.mem_cons_self, hl⟩
          · exact .inl h
        · exact .inr ⟨List.mem_cons_of_mem _ h, e⟩
    · rcases clo_mem h with h | ⟨h, e⟩
      · exact .inl h
      · exact .inr ⟨List.mem_cons_of_mem _ h, e⟩
theorem clo_acc {env : Env} : ∀ {names : List (Str × NameKind)} {acc : List (Str × Addr)} {p : Str × Addr}, p ∈ acc → p ∈ clo env names acc
  | [], _, _, h => h
  | (y, kd) :: r, acc, p, h => by
    unfold clo
    split
    · split
      · exact clo_acc (List.mem_cons_of_mem _ h)
      · exact clo_acc h
    · exact clo_acc h
theorem clo_has {env : Env} : ∀ {names : List (Str × NameKind)} {acc : List (Str × Addr)} {x : Str} {c : Addr}, (x, NameKind.free) ∈ names → env.cells.lookup x = some c → (x, c) ∈ clo env names acc
  | (y, kd) :: r, acc, x, c, h, e => by
    unfold clo
    rcases List.mem_cons.mp h with h | h
    · cases h
      rw [if_pos (by rfl), e]
      exact clo_acc List.mem_cons_self
    · split
      · split
        · exact clo_has h e
        · exact clo_has h e
      · exact clo_has h e
theorem clo_lookup {env : Env} {names : List (Str × NameKind)} {x : Str} {c : Addr} : (clo env names []).lookup x = some c ↔ (x, NameKind.free) ∈ names ∧ env.cells.lookup x = some c := by
  constructor
  · intro h
    rcases clo_mem (PySem.mem_of_lookup h) with h | h
    · cases h
    · exact h
  · intro ⟨h, e⟩
    obtain ⟨c', hl⟩ := lookup_some (clo_has (acc := []) h e)
    rcases clo_mem (PySem.mem_of_lookup hl) with h' | ⟨_, e'⟩
    · cases h'
    · rw [e] at e'; cases e'; exact hl
theorem closureFor_clo {scope : Scope} {env : Env} (h : ∀ x, (x, NameKind.free) ∈ scope.names → ∃ c, env.cells.lookup x = some c) : closureFor scope env = pure (clo env scope.names []) := by
  have key : ∀ (names : List (Str × NameKind)) (acc : List (Str × Addr)), (∀ x, (x, NameKind.free) ∈ names → ∃ c, env.cells.lookup x = some c) →
      (forIn names acc fun (p : Str × NameKind) (cs : List (Str × Addr)) => (if (p.2 == NameKind.free) = true then do
          let c ← cellOf env p.1
          pure (ForInStep.yield ((p.1, c) :: cs)) else pure (ForInStep.yield cs) : Sem _)) = pure (clo env names acc) := by
    intro names
    induction names with
    | nil => intro acc _; rfl
    | cons p r ih =>
      intro acc hn
      obtain ⟨x, kd⟩ := p
      rw [List.forIn_cons]
      unfold clo
      cases hk : kd == NameKind.free with
      | false =>
        simp only [Bool.false_eq_true, if_false, pure_bind]
        exact ih acc fun y hy => hn y (List.mem_cons_of_mem _ hy)
      | true =>
        obtain ⟨c, hc⟩ := hn x (by rw [← eq_of_beq hk]; exact List.mem_cons_self)
        have hcell : cellOf env x = pure c := by unfold cellOf; rw [hc]
        simp only [if_true, hcell, pure_bind, hc]
        exact ih _ fun y hy => hn y (List.mem_cons_of_mem _ hy)
  have := key scope.names [] h
  have hb : closureFor scope env = (forIn scope.names ([] : List (Str × Addr)) fun (p : Str × NameKind) (cs : List (Str × Addr)) => (if (p.2 == NameKind.free) = true then do
          let c ← cellOf env p.1
          pure (ForInStep.yield ((p.1, c) :: cs)) else pure (ForInStep.yield cs) : Sem _)) >>= pure := rfl
  rw [hb, this]
  rfl
/-- the names of a comprehension: those it takes from around it -/
structure CNm (nm nm' : List (Str × NameKind)) (cap : List (Option Nat)) : Prop where
  nd : (nm'.map (·.1)).Nodup
  free : ∀ (i : Nat) (x : Str), nm'[i]? = some (x, .free) → ∃ j, cap[i]? = some (some j) ∧ (nm[j]? = some (x, .cell) ∨ nm[j]? = some (x, .free))
  own : ∀ (i : Nat) (x : Str) (kd : NameKind), nm'[i]? = some (x, kd) → kd ≠ .free → cap[i]? = some none
theorem getV_capture {ρ : Lo} : ∀ {cap : List (Option Nat)} {i : Nat} {mv : MV}, getV (capture ρ cap) i = some mv → ∃ j, cap[i]? = some (some j) ∧ getV ρ j = some mv
  | [], i, mv, h => by
    have : capture ρ [] = [] := rfl
    rw [this] at h
    unfold getV at h
    rw [nth_eq] at h
    simp at h
  | none :: r, 0, mv, h => by
    have : capture ρ (none :: r) = none :: capture ρ r := rfl
    rw [this] at h
    cases h
  | some j :: r, 0, mv, h => by
    have : capture ρ (some j :: r) = getV ρ j :: capture ρ r := rfl
    rw [this] at h
    exact ⟨j, rfl, h⟩
  | none :: r, i + 1, mv, h => by
    have : capture ρ (none :: r) = none :: capture ρ r := rfl
    rw [this] at h
    unfold getV at h
    rw [nth_eq, List.getElem?_cons_succ, ← nth_eq] at h
    obtain ⟨j, e1, e2⟩ := getV_capture (cap := r) (i := i) h
    exact ⟨j, by simpa using e1, e2⟩
  | some k :: r, i + 1, mv, h => by
    have : capture ρ (some k :: r) = getV ρ k :: capture ρ r := rfl
    rw [this] at h
    unfold getV at h
    rw [nth_eq, List.getElem?_cons_succ, ← nth_eq] at h
    obtain ⟨j, e1, e2⟩ := getV_capture (cap := r) (i := i) h
    exact ⟨j, by simpa using e1, e2⟩

section
variable {prog : Program} {w : World} {hB : Heap} {C : Addr} {n : Nat} {nm : List (Str × NameKind)}
theorem kind_relabel {scope : Scope} {env : Env} (hn : (scope.names.map (·.1)).Nodup) {i : Nat} {x : Str} {kd : NameKind} (e : scope.names[i]? = some (x, kd)) :
    (relabel scope env).names.lookup x = some kd ∨ (kd = .free ∧ (relabel scope env).names.lookup x = some .cell) := by
  have e' : (relabel scope env).names[i]? = some (if (kd == NameKind.free && env.scope.kind == .function && env.kindOf x == some .cell) = true then (x, NameKind.cell) else (x, kd)) := by
    unfold relabel
    rw [List.getElem?_map, e]; rfl
  have hn' : ((relabel scope env).names.map (·.1)).Nodup := by
    have : (relabel scope env).names.map (·.1) = scope.names.map (·.1) := by
      unfold relabel
      rw [List.map_map]
      refine List.map_congr_left fun p _ => ?_
      obtain ⟨y, k⟩ := p
      show (if _ then _ else _ : Str × NameKind).1 = y
      split <;> rfl
    rw [this]; exact hn
  by_cases hc : (kd == NameKind.free && env.scope.kind == .function && env.kindOf x == some .cell) = true
  · rw [if_pos hc] at e'
    simp only [Bool.and_eq_true] at hc
    exact .inr ⟨eq_of_beq hc.1.1, lookup_at hn' e'⟩
  · rw [if_neg hc] at e'
    exact .inl (lookup_at hn' e')
theorem comp_cells {env : Env} {own : List Addr} {k : Kx} {φ : List Addr} {ρ : Lo} {σ : Hp} {h : Heap} {scope : Scope} {cap : List (Option Nat)} (N : CNm nm scope.names cap) (S : Stt hB C env nm own k φ ρ σ h) :
    ∀ x, (x, NameKind.free) ∈ scope.names → ∃ c, env.cells.lookup x = some c := fun x hx => by
  obtain ⟨i, e⟩ := List.getElem?_of_mem hx
  obtain ⟨j, _, ej⟩ := N.free i x e
  rcases ej with ej | ej
  · obtain ⟨c, o, hc, _⟩ := S.cel j x _ ej (.inl rfl); exact ⟨c, hc⟩
  · obtain ⟨c, o, hc, _⟩ := S.cel j x _ ej (.inr rfl); exact ⟨c, hc⟩
theorem cellsFrom_app : ∀ {names : List (Str × NameKind)} {b : Nat} {acc : List (Str × Addr)}, cellsFrom b names acc = cellsFrom b names [] ++ acc
  | [], _, _ => rfl
  | (x, kd) :: r, b, acc => by
    unfold cellsFrom
    split
    · rw [cellsFrom_app (names := r) (acc := (x, b) :: acc), cellsFrom_app (names := r) (acc := [(x, b)]), List.append_assoc]; rfl
    · exact cellsFrom_app
theorem lookup_app {α : Type} {x : Str} {c : α} {l r : List (Str × α)} (h : (l ++ r).lookup x = some c) : l.lookup x = some c ∨ r.lookup x = some c := by
  rw [List.lookup_append] at h
  cases q : l.lookup x with
  | none => rw [q] at h; exact .inr h
  | some d => rw [q] at h; exact .inl h
/-- a comprehension's frame, just made -/
structure NewC (h : Heap) (L : Addr) (names : List (Str × NameKind)) (h' : Heap) : Prop where
  ns : ∃ m, h'.Ns L m
  keep : HExt h h'
  cell : ∀ x c, (x, c) ∈ cellsFrom (L + 1) names [] → h'.IsCell c none ∧ L + 1 ≤ c
  apart : (cellsFrom (L + 1) names []).Pairwise fun x y => x.2 ≠ y.2
theorem newEnv_comp {M : Model} {A : Around} {E : Value → Shared → Prop} {s : Shared} {scope : Scope} {globals : Addr} {cl : List (Str × Addr)} {qual : Str} {func : Option Addr} {code : Value} {outer : Env} {builtins : Addr} {Q : Env → Shared → Prop}
    (hQ : ∀ h', NewC s.heap s.heap.objs.size scope.names h' → Q (newEnv scope s.heap.objs.size globals (cellsFrom (s.heap.objs.size + 1) scope.names [] ++ cl) qual func code (some outer) builtins) { s with heap := h' }) :
    wpAny M A (newFunctionEnv scope globals cl [] qual func code (some outer) builtins) Q E s := by
  simp only [newFunctionEnv, Option.isSome_some, if_true]
  refine wpAny_bind (wpAny_alloc ?_)
  refine wpAny_bind (wpAny_layCells _ (fun name kind cells => by cases hkc : kind == NameKind.cell <;> simp [hkc]) _ _ _ _ ?_)
  have ok := cellsFrom_ok scope.names (s.heap.push { cls := .type "dict", data := .dict #[] }) (s.heap.objs.size + 1) [] ⟨fun _ _ hm => (nomatch hm), List.Pairwise.nil⟩ (by rw [Heap.size_push]; exact Nat.le_refl _)
  rw [Heap.size_push] at ok
  rw [show ({ s with heap := s.heap.push { cls := .type "dict", data := .dict #[] } } : Shared).heap.objs.size = s.heap.objs.size + 1 from Heap.size_push .., cellsFrom_app]
  exact wpAny_bind (wpAny_pure (wpAny_pure (hQ _ ⟨⟨_, (Heap.Ns.new s.heap (.type "dict")).keeps (pushCells_keeps _ _)⟩, fun b o e => pushCells_keeps _ _ b o (Heap.get?_push_of_some _ e), ok.empty, ok.apart⟩)))
theorem comp_stt {env : Env} {own : List Addr} {k : Kx} {φ : List Addr} {ρ : Lo} {σ : Hp} {h₀ h : Heap} {scope : Scope} {cap : List (Option Nat)} {L : Addr} (N : CNm nm scope.names cap) (hkind : scope.kind = .function) (S : Stt hB C env nm own k φ ρ σ h)
    (W : NewC h₀ L scope.names h) (hlt : ∀ x c, env.cells.lookup x = some c → c < L) (hphi : ∀ b, L ≤ b → b ∉ φ) (hb : ∀ b, L ≤ b → hB.get? b = none) :
    Stt hB C (compEnvC scope (cellsFrom (L + 1) scope.names [] ++ clo env scope.names []) L env) scope.names (L :: cellAd scope.names (cellsFrom (L + 1) scope.names [])) k φ (capture ρ cap) σ h := by
  have hge : ∀ b ∈ L :: cellAd scope.names (cellsFrom (L + 1) scope.names []), L ≤ b := fun b hb => by
    rcases List.mem_cons.mp hb with rfl | hb
    · exact Nat.le_refl _
    · obtain ⟨y, _, hl⟩ := cellAd_mem hb
      exact Nat.le_of_lt (W.cell y b (PySem.mem_of_lookup hl)).2
  have hcell : ∀ {x c}, (cellsFrom (L + 1) scope.names []).lookup x = some c → (x, NameKind.cell) ∈ scope.names ∧ h.IsCell c none ∧ L < c := fun {x c} e => by
    have hm := PySem.mem_of_lookup e
    refine ⟨?_, W.cell x c hm⟩
    rcases cellsFrom_mem hm with z | z
    · cases z
    · exact z
  have hnone : ∀ {x}, (x, NameKind.free) ∈ scope.names → (cellsFrom (L + 1) scope.names []).lookup x = none := fun {x} hf => by
    cases q : (cellsFrom (L + 1) scope.names []).lookup x with
    | none => rfl
    | some c =>
      obtain ⟨i, ei⟩ := List.getElem?_of_mem hf
      obtain ⟨j, ej⟩ := List.getElem?_of_mem (hcell q).1
      have := (lookup_at N.nd ei).symm.trans (lookup_at N.nd ej)
      cases this
  have hfree : ∀ {x c}, (x, NameKind.free) ∈ scope.names → env.cells.lookup x = some c → (cellsFrom (L + 1) scope.names [] ++ clo env scope.names []).lookup x = some c := fun {x c} hf e => by
    rw [List.lookup_append, hnone hf]
    exact clo_lookup.mpr ⟨hf, e⟩
  exact {
    names := fun i x kd e => kind_relabel (env := env) N.nd e
    ocel := fun i x e => by
      obtain ⟨c, hm⟩ := cellsFrom_has (b := L + 1) (acc := []) (List.mem_of_getElem? e)
      obtain ⟨c', hl⟩ := lookup_some hm
      exact ⟨c', List.mem_cons_of_mem _ (List.mem_filterMap.mpr ⟨(x, .cell), List.mem_of_getElem? e, by rw [if_pos rfl]; exact hl⟩), by
        show List.lookup x (_ ++ _) = _
        rw [List.lookup_append, hl]; rfl⟩
    kind := hkind
    glob := S.glob
    blt := S.blt
    ndn := N.nd
    locl := List.mem_cons_self
    loc := by
      obtain ⟨m, hns⟩ := W.ns
      refine ⟨m, hns, fun i x mv e q => ?_⟩
      obtain ⟨j, e1, _⟩ := getV_capture q
      rw [N.own i x _ e (by decide)] at e1; cases e1
    cel := fun i x kd e hk => by
      rcases hk with rfl | rfl
      · obtain ⟨c, hm⟩ := cellsFrom_has (b := L + 1) (acc := []) (List.mem_of_getElem? e)
        obtain ⟨c', hl⟩ := lookup_some hm
        refine ⟨c', none, by show List.lookup x (_ ++ _) = _; rw [List.lookup_append, hl]; rfl, (hcell hl).2.1, fun mv q => ?_⟩
        obtain ⟨j, e1, _⟩ := getV_capture q
        rw [N.own i x _ e (by decide)] at e1; cases e1
      · obtain ⟨j, ej, en⟩ := N.free i x e
        have key : ∃ c o, env.cells.lookup x = some c ∧ h.IsCell c o ∧ ∀ mv, getV ρ j = some mv → ∃ v, o = some v ∧ VR φ v mv := by
          rcases en with en | en
          · exact S.cel j x _ en (.inl rfl)
          · exact S.cel j x _ en (.inr rfl)
        obtain ⟨c, o, hc, ho, hv⟩ := key
        refine ⟨c, o, hfree (List.mem_of_getElem? e) hc, ho, fun mv q => ?_⟩
        obtain ⟨j', e1, e2⟩ := getV_capture q
        rw [ej] at e1; cases e1
        exact hv mv e2
    cinj := fun x y c h1 h2 => by
      rcases lookup_app h1 with h1 | h1 <;> rcases lookup_app h2 with h2 | h2
      · exact PySem.name_of_addr W.apart (PySem.mem_of_lookup h1) (PySem.mem_of_lookup h2)
      · exact absurd (hlt y c (clo_lookup.mp h2).2) (Nat.lt_asymm (hcell h1).2.2)
      · exact absurd (hlt x c (clo_lookup.mp h1).2) (Nat.lt_asymm (hcell h2).2.2)
      · exact S.cinj x y c (clo_lookup.mp h1).2 (clo_lookup.mp h2).2
    cnm := fun x c h1 => by
      rcases lookup_app h1 with h1 | h1
      · obtain ⟨i, e⟩ := List.getElem?_of_mem (hcell h1).1
        exact ⟨i, .cell, e, .inl rfl⟩
      · obtain ⟨i, e⟩ := List.getElem?_of_mem (clo_lookup.mp h1).1
        exact ⟨i, .free, e, .inr rfl⟩
    len := S.len
    obj := S.obj
    nd := by
      refine List.nodup_append.mpr ⟨List.nodup_cons.mpr ⟨fun q => ?_, cellAd_nodup N.nd W.apart⟩, (List.nodup_append.mp S.nd).2.1, fun b hb' c hc q => ?_⟩
      · obtain ⟨y, _, hl⟩ := cellAd_mem q
        exact Nat.lt_irrefl _ (hcell hl).2.2
      · exact hphi b (hge b hb') (q ▸ hc)
    base := S.base
    hown := fun b hb' => hb b (hge b hb')
    olt := fun b hb' => by
      rcases List.mem_cons.mp hb' with rfl | hb'
      · obtain ⟨m, o, _, _, e, _⟩ := W.ns
        exact ⟨o, e⟩
      · obtain ⟨y, _, hl⟩ := cellAd_mem hb'
        obtain ⟨o, ho, _⟩ := (hcell hl).2.1
        exact ⟨o, ho⟩
    hphi := S.hphi
    n0 := S.n0 }
theorem Item.mono {φ t : List Addr} {its : Its} {i : Nat} {v : Value} {h : Heap} (x : Item φ its i v h) : Item (φ ++ t) its i v h := by
  cases its with
  | plain f xs => obtain ⟨m, e, r⟩ := x; exact ⟨m, e, r.mono⟩
  | enum f xs => obtain ⟨T, tk, u, m, e, hT, e', r⟩ := x; exact ⟨T, tk, u, m, e, hT, e', r.mono⟩
end
end Mine
end

section
namespace Mine
open PySem PyProof.Rows PySem.W
set_option maxRecDepth 100000

section
variable {prog : Program} {w : World} {hB : Heap} {C : Addr} {n : Nat} {nm : List (Str × NameKind)}
structure CompOK (prog : Program) (w : World) (hB : Heap) (C : Addr) (n : Nat) (nm : List (Str × NameKind)) (elt target iter : Expr) (ifs : List Expr) (rest : List Comprehension) (scope : Scope) (pos : Pos) (emit : Value → Env → Sem Unit) (t : MT) (ci : CI) (cb : Nat → CS) (cap : List (Option Nat)) : Prop where
  N : CNm nm scope.names cap
  kind : scope.kind = .function
  ht : Tgt scope.names t target
  hi : SI prog w hB C n nm target iter ci
  hb : ∀ acc, TE prog w hB C n scope.names acc ifs emit (cb acc)
  hx : ∀ acc, Nx (cb acc)
  hs : ∀ env x, foldedSetIterable iter env x = pure x
  htn : TurnIs (.ListComp elt (⟨target, iter, ifs, 0⟩ :: rest) scope pos) 0 target iter.pos ifs emit
/-- what holds behind the loop -/
structure CompEnd (hB : Heap) (C : Addr) (env : Env) (nm : List (Str × NameKind)) (own : List Addr) (k : Kx) (φ : List Addr) (ρ : Lo) (σ' : Hp) (mv : MV) (h₀ : Heap) (v : Value) (φ' : List Addr) (h' : Heap) (Cc : Addr) : Prop where
  stp : Stp (Ft k own φ) φ h₀ φ' h'
  stt : Stt hB C env nm own k φ' ρ σ' h'
  val : VR φ' v mv
  ali : Alien hB env own φ' Cc
  new : h₀.get? Cc = none
  ns : ∃ m, h'.Ns Cc m
theorem comp_core {elt target iter : Expr} {ifs : List Expr} {rest : List Comprehension} {scope : Scope} {pos ipos : Pos} {emit : Value → Env → Sem Unit} {t : MT} {ci : CI} {cb : Nat → CS} {cap : List (Option Nat)}
    (K : CompOK prog w hB C n nm elt target iter ifs rest scope pos emit t ci cb cap) {A : Around} {env : Env} {own : List Addr} {k : Kx} {φ : List Addr} {ρ : Lo} {σ : Hp} {s : Shared} {mv : MV} {σ' : Hp} {use : Option (Value → Sem Unit)} {Q : Value → Shared → Prop} {E : Value → Shared → Prop}
    (hA : AOK n A) (S : Stt hB C env nm own k φ ρ σ s.heap) (e : cComp t ci cb cap k ρ σ = some (mv, σ'))
    (G : ∀ v φ' h' tk Cc, CompEnd hB C env nm own k φ ρ σ' mv s.heap v φ' h' Cc → compPost (model prog w) A E use Q v Cc (.ok .next) { s with heap := h', toks := tk }) :
    wpAny (model prog w) A (comprehension (.ListComp elt (⟨target, iter, ifs, 0⟩ :: rest) scope pos) scope env ipos (newList []) false (eval iter env) use) Q E s := by
  obtain ⟨its, σ₁, e1, e⟩ := bnd_some.mp e
  rw [frN_eq, frS_eq, frS_eq, len_eq, app_eq] at e
  obtain ⟨ρ₂, σ₂, e2, e⟩ := nxtO_some.mp e
  cases e
  refine wpAny_comprehension_free rfl (K.hs env) (closureFor_clo (comp_cells K.N S)) K.kind (fun y hy hl => ?_) ?_
  · obtain ⟨i, ei⟩ := List.getElem?_of_mem hy
    obtain ⟨y1, y2⟩ := y
    have hl : y2 = .local := hl
    subst hl
    exact lookup_at K.N.nd ei
  refine K.hi A env own k φ ρ σ s its σ₁ hA S e1 _ E fun I φ₁ h₁ h₂ tk fp wr P Md St x₁ Di => ?_
  refine wpAny_newObj_type (newEnv_comp fun h₃ W => ?_)
  dsimp only at W ⊢
  generalize hH2 : h₂.push { cls := .type "list", dict := none, data := .seq ([] : List Value).toArray } = H2 at W ⊢
  have hCs : H2.objs.size = h₂.objs.size + 1 := by rw [← hH2, Heap.size_push]
  have y₁ : HExt h₂ H2 := fun b o e => hH2 ▸ Heap.get?_push_of_some _ e
  have y₂ : HExt H2 h₃ := W.keep
  have frD : h₂.get? h₂.objs.size = none := get?_size _
  have fr : ∀ b, H2.objs.size ≤ b → h₂.get? b = none ∧ b ≠ h₂.objs.size := fun b hb => by
    rw [hCs] at hb
    exact ⟨Heap.get?_none_of_le (Nat.le_of_succ_le hb), fun q => absurd (q ▸ hb) (Nat.not_succ_le_self _)⟩
  have hlist : h₃.get? h₂.objs.size = some { cls := .type "list", dict := none, data := .seq ([] : List Value).toArray } := y₂ _ _ (hH2 ▸ Heap.get?_push_size _ rfl)
  have SA := Di.stt.new (fun b o e => y₂ b o (y₁ b o e)) frD hlist (mo := .list []) ⟨[], _, rfl, trivial, by decide⟩
  have hphi : ∀ b, H2.objs.size ≤ b → b ∉ φ₁ ++ [h₂.objs.size] := fun b hb q => by
    rcases List.mem_append.mp q with q | q
    · exact (Di.stt.fresh (fr b hb).1).phi q
    · exact (fr b hb).2 (List.mem_singleton.mp q)
  have hold : ∀ x c, env.cells.lookup x = some c → ∃ o, h₂.get? c = some o := fun x c e => by
    obtain ⟨i, kd, en, hk⟩ := Di.stt.cnm x c e
    obtain ⟨c', o', hc, ⟨o'', ho, _⟩, _⟩ := Di.stt.cel i x kd en hk
    rw [e] at hc; cases hc
    exact ⟨o'', ho⟩
  have SC := comp_stt K.N K.kind SA W (fun x c e => by
    obtain ⟨o, ho⟩ := hold x c e
    rw [hCs]
    exact Nat.lt_succ_of_lt (Heap.lt_size ho)) hphi (fun b hb => (Di.stt.fresh (fr b hb).1).base)
  have hge : ∀ b ∈ H2.objs.size :: cellAd scope.names (cellsFrom (H2.objs.size + 1) scope.names []), H2.objs.size ≤ b := fun b hb => by
    rcases List.mem_cons.mp hb with rfl | hb
    · exact Nat.le_refl _
    · obtain ⟨y, _, hl⟩ := cellAd_mem hb
      exact Nat.le_of_lt (W.cell y b (PySem.mem_of_lookup hl)).2
  have hown : H2.objs.size ∈ H2.objs.size :: cellAd scope.names (cellsFrom (H2.objs.size + 1) scope.names []) := List.mem_cons_self
  have hcl : ∀ x b, (cellsFrom (H2.objs.size + 1) scope.names [] ++ clo env scope.names []).lookup x = some b → H2.objs.size ≤ b ∨ env.cells.lookup x = some b := fun x b q => by
    rcases lookup_app q with q | q
    · exact .inl (Nat.le_of_lt (W.cell x b (PySem.mem_of_lookup q)).2)
    · exact .inr (clo_lookup.mp q).2
  generalize hcs : cellsFrom (H2.objs.size + 1) scope.names [] ++ clo env scope.names [] = cs at SC hcl ⊢
  generalize how : H2.objs.size :: cellAd scope.names (cellsFrom (H2.objs.size + 1) scope.names []) = ow at SC hge hown
  have hlen : φ₁.length = σ₁.length := Di.stt.len
  have l2 : ∀ b ∈ fp, ∃ o, h₂.get? b = some o := Di.live 0 _ Di.st
  have Dc : Itd prog w hB C A (compEnvC scope cs H2.objs.size env) scope.names ow k (φ₁ ++ [h₂.objs.size]) (capture ρ cap) (σ₁ ++ [.list []]) target its h₁ h₃ I fp wr P Md St := {
    turns := Di.turns
    live := Di.live
    stt := SC
    st := Di.turns.frame _ _ _ Di.st fun b _ o e => y₂ b o (y₁ b o e)
    nft := fun b hb q => by
      obtain ⟨o, eo⟩ := l2 b hb
      rcases q with q | ⟨i, hi, ei⟩
      · rw [(fr b (hge b q)).1] at eo; cases eo
      · by_cases hlt : i < φ₁.length
        · rw [List.getElem?_append_left hlt] at ei
          exact Di.nft b hb (.inr ⟨i, hi, ei⟩)
        · rw [List.getElem?_append_right (by omega)] at ei
          have := List.mem_of_getElem? ei
          rw [List.mem_singleton.mp this, frD] at eo; cases eo
    ali := fun b hb => by
      obtain ⟨o, eo⟩ := l2 b (Di.turns.sub b hb)
      refine ⟨fun q => ?_, fun q => ?_, (Di.ali b hb).base, fun x q => ?_⟩
      · rw [(fr b (hge b q)).1] at eo; cases eo
      · rcases List.mem_append.mp q with q | q
        · exact (Di.ali b hb).phi q
        · rw [List.mem_singleton.mp q, frD] at eo; cases eo
      · rcases hcl x b q with q | q
        · rw [(fr b q).1] at eo; cases eo
        · exact (Di.ali b hb).cel x q
    item := fun i v h hp => (Di.item i v h hp).mono
    self := Di.self
    ext := fun b o e => y₂ b o (y₁ b o (Di.ext b o e))
    fresh := Di.fresh }
  have hacc : (φ₁ ++ [h₂.objs.size])[σ₁.length]? = some h₂.objs.size := by rw [← hlen]; simp
  have loop : ∀ tk', codeAny (model prog w) A (.compLoop (.ListComp elt (⟨target, iter, ifs, 0⟩ :: rest) scope pos) 0 (.ref I) (.ref h₂.objs.size) (compEnvC scope cs H2.objs.size env))
      (compPost (model prog w) A E use Q (.ref h₂.objs.size) H2.objs.size) { s with heap := h₃, toks := tk' } := fun tk' => by
    refine comp_its (s := { s with heap := h₃, toks := tk' }) rfl K.htn (K.hb _) (K.hx _) hA K.ht Dc hacc e2 fun φ' h' tk'' X S' ht' => ?_
    obtain ⟨u, rfl, hu⟩ := ht'
    have l1 : ∀ b o, h₁.get? b = some o → b ∉ ow ∧ b ≠ h₂.objs.size := fun b o e => by
      have := Di.ext b o e
      exact ⟨fun q => (by rw [(fr b (hge b q)).1] at this; cases this), fun q => (by rw [q, frD] at this; cases this)⟩
    have back : ∀ b o, h₁.get? b = some o → Ft k ow (φ₁ ++ [h₂.objs.size]) b → ∃ i, k.mut i = true ∧ φ₁[i]? = some b := fun b o e q => by
      rcases q with q | ⟨i, hi, ei⟩
      · exact absurd q (l1 b o e).1
      · by_cases hlt : i < φ₁.length
        · rw [List.getElem?_append_left hlt] at ei
          exact ⟨i, hi, ei⟩
        · rw [List.getElem?_append_right (by omega)] at ei
          exact absurd (List.mem_singleton.mp (List.mem_of_getElem? ei)) (l1 b o e).2
    have hu2 : ∀ a ∈ [h₂.objs.size] ++ u, h₂.get? a = none := fun a ha => by
      rcases List.mem_append.mp ha with ha | ha
      · rw [List.mem_singleton.mp ha]; exact frD
      · cases q : h₂.get? a with
        | none => rfl
        | some o => have := y₂ _ _ (y₁ _ _ q); rw [hu a ha] at this; cases this
    have X₁ : Stp (Ft k own φ₁) φ₁ h₁ (φ₁ ++ [h₂.objs.size] ++ u) h' := ⟨⟨[h₂.objs.size] ++ u, by rw [List.append_assoc], fun a ha => by
      cases q : h₁.get? a with
      | none => rfl
      | some o => have := Di.ext _ _ q; rw [hu2 a ha] at this; cases this⟩, fun b o eb hn => X.keep b o eb fun q => by
        obtain ⟨i, hi, ei⟩ := back b o eb q
        exact hn (.inr ⟨i, hi, ei⟩), X.live⟩
    have hlive : ∀ b o, h₂.get? b = some o → (∃ o₁, h₁.get? b = some o₁) → (¬ ∃ i, k.mut i = true ∧ φ₁[i]? = some b) → h'.get? b = some o := fun b o e2 ⟨o₁, e1⟩ hn => by
      have := Di.ext b o₁ e1
      rw [e2] at this; cases this
      exact X.keep b o e1 fun q => hn (back b o e1 q)
    have SO := Di.stt.resume S' (k' := k) ⟨[h₂.objs.size] ++ u, by rw [List.append_assoc], hu2⟩ (fun b o e2 hb => by
      refine hlive b o e2 ?_ ?_
      · rcases hb with hb | ⟨y, hb⟩
        · obtain ⟨o', eo⟩ := S.olt b hb; exact x₁.live b o' eo
        · obtain ⟨i, kd, en, hk⟩ := S.cnm y b hb
          obtain ⟨c, o', hc, ⟨o'', ho, _⟩, _⟩ := S.cel i y kd en hk
          rw [hb] at hc; cases hc
          exact x₁.live b o'' ho
      · rintro ⟨i, _, ei⟩
        rcases hb with hb | ⟨y, hb⟩
        · exact Di.stt.pne hb ei rfl
        · obtain ⟨j, kd, en, hk⟩ := Di.stt.cnm y b hb
          obtain ⟨c, o', hc, ⟨o'', ho, hd⟩, _⟩ := Di.stt.cel j y kd en hk
          rw [hb] at hc; cases hc
          have hi := (List.getElem?_eq_some_iff.mp ei).1
          rw [hlen] at hi
          obtain ⟨a', ob, e3, e4, r⟩ := Di.stt.obj i σ₁[i] (by simp [hi])
          rw [ei] at e3; cases e3
          rw [ho] at e4; cases e4
          exact r.data _ hd) (by
      have := S'.len
      simp only [List.length_append, List.length_singleton] at this
      omega)
    have al : Alien hB env own (φ₁ ++ [h₂.objs.size] ++ u) H2.objs.size := ⟨(Di.stt.fresh (fr _ (Nat.le_refl _)).1).own, fun q => (List.nodup_append.mp S'.nd).2.2 _ hown _ q rfl, (Di.stt.fresh (fr _ (Nat.le_refl _)).1).base, (Di.stt.fresh (fr _ (Nat.le_refl _)).1).cel⟩
    have hns' : ∃ m, h'.Ns H2.objs.size m := by
      obtain ⟨m, hm, _⟩ := S'.loc
      exact ⟨m, hm⟩
    exact G _ _ h' tk'' _ ⟨x₁.trans X₁, SO, ⟨h₂.objs.size, by rw [List.getElem?_append_left (by simp; omega)]; exact hacc, rfl⟩, al, (by
      cases q : s.heap.get? H2.objs.size with
      | none => rfl
      | some o =>
        obtain ⟨o', eo⟩ := x₁.live _ o q
        have := Di.ext _ _ eo
        rw [(fr _ (Nat.le_refl _)).1] at this; cases this), hns'⟩
  exact codeAny_compStart_own rfl rfl rfl (loop _) (Dc.self _ _ _ Dc.st (loop _))
theorem but_up {b : Addr} {h h' : Heap} (x : Heap.SameBut b h h') : ∀ c o, c ∉ [b] → h.get? c = some o → h'.get? c = some o :=
  fun c _ hc e => (x.2 c fun q => hc (List.mem_singleton.mpr q)).trans e
theorem Stp.behind {k : Kx} {own φ φ' : List Addr} {h h' h'' : Heap} {b : Addr} (x : Stp (Ft k own φ) φ h φ' h') (y : Heap.SameBut b h' h'') (hb : h.get? b = none) : Stp (Ft k own φ) φ h φ' h'' :=
  ⟨x.pre, fun c o e q => (y.2 c fun z => by rw [z, hb] at e; cases e).trans (x.keep c o e q), fun c o e => by
    obtain ⟨o', e'⟩ := x.live c o e
    exact ⟨o', (y.2 c fun z => by rw [z, hb] at e; cases e).trans e'⟩⟩
theorem SE_comp {elt target iter : Expr} {ifs : List Expr} {rest : List Comprehension} {scope : Scope} {pos : Pos} {emit : Value → Env → Sem Unit} {t : MT} {ci : CI} {cb : Nat → CS} {cap : List (Option Nat)}
    (K : CompOK prog w hB C n nm elt target iter ifs rest scope pos emit t ci cb cap) : SE prog w hB C n nm (.ListComp elt (⟨target, iter, ifs, 0⟩ :: rest) scope pos) (cComp t ci cb cap) := by
  intro A env own k φ ρ σ s mv σ' hA S e Q E G
  rw [eval_ListComp]
  refine comp_core K (use := none) hA S e fun v φ' h' tk Cc x => ?_
  obtain ⟨m, hm⟩ := x.ns
  refine ⟨m, hm, fun h'' y => ?_⟩
  exact G v φ' h'' tk (x.stp.behind y x.new) (x.stt.alien (wr := [Cc]) (fun b hb => by rw [List.mem_singleton.mp hb]; exact x.ali) (but_up y)) x.val
/-- a comprehension whose value a local takes at once -/
theorem SS_nmc {elt target iter : Expr} {ifs : List Expr} {rest : List Comprehension} {scope : Scope} {pos py p : Pos} {emit : Value → Env → Sem Unit} {t : MT} {ci : CI} {cb : Nat → CS} {cap : List (Option Nat)} {i : Nat} {y : Str}
    (K : CompOK prog w hB C n nm elt target iter ifs rest scope pos emit t ci cb cap) (hy : nm[i]? = some (y, .local)) (hl : (py.line == pos.line) = true) (hnot : (scope.names.any fun (x, k) => x == y && (k == .local || k == .cell)) = false) :
    SS prog w hB C n nm (.Assign [.Name y py] (.ListComp elt (⟨target, iter, ifs, 0⟩ :: rest) scope pos) p) (sNm i (cComp t ci cb cap)) := by
  intro A env own k φ ρ σ s mf ρ' σ' hA S e Q E G
  obtain ⟨v, σ₁, e1, e⟩ := bnd_some.mp e
  have hk : env.kindOf y = some .local := (S.names i y _ hy).resolve_right fun q => nomatch q.1
  have hsw : swapsWith (.ListComp elt (⟨target, iter, ifs, 0⟩ :: rest) scope pos) (some (.Name y py)) p.line env = pure true := by
    have hb : env.blockKind = .function := by
      unfold Env.blockKind
      rw [S.kind]; rfl
    show (pure (env.blockKind == .function && env.kindOf y == some .local && py.line == pos.line && !(scope.names.any fun (x, k) => x == y && (k == .local || k == .cell))) : Sem Bool) = pure true
    rw [hb, hk, hl, hnot]; rfl
  rw [exec_Assign_Name_used _ _ _ _ hsw]
  refine wpAny_bind (wpAny_standAt (wpAny_bind ?_))
  show wpAny _ A (do let _ ← comprehension (.ListComp elt (⟨target, iter, ifs, 0⟩ :: rest) scope pos) scope env _ (newList []) false (eval iter env) (some (assign (.Name y py) env))) _ _ s
  refine wpAny_bind (wpAny_mono (comp_core K (use := some (assign (.Name y py) env)) (Q := fun _ s' => Q .next s') hA S e1 fun v φ' h' tk Cc x => ?_) (fun _ s' hq => wpAny_pure (wpAny_pure hq)) fun _ _ e => e)
  obtain ⟨m, hm⟩ := x.ns
  rw [setK_eq] at e
  cases e
  refine wpAny_assign_Name (store_name (s := { s with heap := h', toks := tk }) x.stt (.inl hy) x.val fun h₅ tk₅ x₅ S₅ => ?_)
  refine ⟨m, hm.at' fun o eo => x₅.keep _ o eo x.ali.notFt, fun h'' z => ?_⟩
  exact G .next φ' h'' tk₅ ((x.stp.trans x₅).behind z x.new) (S₅.alien (wr := [Cc]) (fun b hb => by rw [List.mem_singleton.mp hb]; exact x.ali) (but_up z)) rfl
end
end Mine
end

section
namespace Mine
open PySem PyProof.Rows PySem.W
set_option maxRecDepth 100000

theorem slot_bytes_join : Slot "bytes" "join" "bytes.join" :=
  .of (owner := "bytes") (n := "join") (by rw [typeLookup_type, builtinLookup_eq_fast]; kernel_rfl) (by decide +kernel) (by decide +kernel) (by decide +kernel)
    (by first | exact .inl (by decide +kernel) | exact .inr (by decide +kernel)) (by rw [isSubtype_type]; kernel_rfl)
theorem entry_bytes_join : entryFor table "bytes.join" = some Builtin.«bytes.join» := entryFor_of_tree (by kernel_rfl)
theorem args_bytes_join_2 (a b : Value) : argsOk "bytes.join" ⟨[a, b], []⟩ := by
  unfold argsOk; rw [signature?_of (id := "bytes.join") (n := ['n', 'i', 'o', 'j']) (o := ['s', 'e', 't', 'y', 'b']) (by kernel_rfl) FB.owner_bytes]; kernel_rfl
theorem type_bytes_join : typeOf (.builtin "bytes.join") = pure (.type "method_descriptor") := by show builtinType _ = _; rw [builtinType_eq_fast]; kernel_rfl
theorem take_eq {id : String} {b : Array UInt8} {t : Tok} : Builtin.Bytes.takeBufferQuiet? id (.bytes b t) 0 = pure (some (b, none)) := by
  have h : Builtin.Bytes.takeBuffer? id (.bytes b t) 0 = pure (some (b, none)) := by
    unfold Builtin.Bytes.takeBuffer?
    rw [KBy.special_eq KBy.look_buffer, KBy.own_buffer]
    have hf : ((0 : Int) == Builtin.Bytes.fullReadOnly) = false := by decide
    rw [hf, KBy.buffer_eq]
    kernel_rfl
  unfold Builtin.Bytes.takeBufferQuiet?
  rw [h]
  rfl

theorem forRange {A : Around} {M : Model} {β : Type} {E : Value → Shared → Prop} {b : Nat} {f : Nat → β → Sem (ForInStep β)} (I : Nat → β → Shared → Prop) {Q : β → Shared → Prop}
    (hstep : ∀ i c s, i < b → I i c s → wpAny M A (f i c) (fun r s' => match r with | .done c' => Q c' s' | .yield c' => I (i + 1) c' s') E s)
    (hend : ∀ c s, I b c s → Q c s) {c : β} {s : Shared} (h : I 0 c s) : wpAny M A (forIn [0:b] c f) Q E s := by
  rw [Std.Legacy.Range.forIn_eq_forIn_range']
  have hsz : ([0:b] : Std.Legacy.Range).size = b := by simp [Std.Legacy.Range.size]
  show wpAny M A (forIn (List.range' 0 ([0:b] : Std.Legacy.Range).size 1) c f) Q E s
  rw [hsz]
  refine wpAny_forIn_list f (fun l c s => ∃ i m, i + m = b ∧ l = List.range' i m 1 ∧ I i c s) Q ?_ ?_ _ c ⟨0, b, Nat.zero_add b, rfl, h⟩
  · rintro x rest c s ⟨i, m, hib, hl, hI⟩
    cases m with
    | zero => cases hl
    | succ m =>
      rw [List.range'_succ] at hl
      obtain ⟨rfl, rfl⟩ := List.cons.inj hl
      have hb : x + 1 + m = b := by rw [← hib, Nat.add_assoc, Nat.add_comm 1 m]
      refine wpAny_mono (hstep x c s (hb ▸ Nat.le_add_right (x + 1) m) hI) (fun r s' h' => ?_) fun _ _ z => z
      cases r with
      | done c' => exact h'
      | yield c' => exact ⟨x + 1, m, hb, rfl, h'⟩
  · rintro c s ⟨i, m, hib, hl, hI⟩
    cases m with
    | zero => exact hend c s ((show i = b from hib) ▸ hI)
    | succ m => rw [List.range'_succ] at hl; cases hl
theorem joined_go : ∀ (l : List (Array UInt8)) (k : Nat) (out : Array UInt8), ((l.zipIdx k).foldl (fun out (p : Array UInt8 × Nat) => (if p.2 > 0 then out ++ #[] else out) ++ p.1) out) = out ++ (l.map (·.toList)).flatten.toArray
  | [], _, out => by simp
  | p :: l, k, out => by
    rw [List.zipIdx_cons, List.foldl_cons, joined_go l (k + 1)]
    have : (if k > 0 then out ++ #[] else out) = out := by split <;> simp
    show (if k > 0 then out ++ #[] else out) ++ p ++ _ = _
    rw [this]
    rw [Array.append_assoc]
    congr 1
    apply Array.ext'
    simp
theorem joined_eq (l : List (Array UInt8)) : Builtin.Bytes.joined #[] l = (l.map (·.toList)).flatten.toArray := by
  have := joined_go l 0 #[]
  simpa [Builtin.Bytes.joined] using this
section
variable {prog : Program} {w : World} {A : Around} {E : Value → Shared → Prop} {s : Shared}
theorem letGo_join : ∀ (l : List (Array UInt8 × Tok)) {keep : List Value} {Q : Unit → Shared → Prop}, Q () s → wpAny (model prog w) A (Builtin.Bytes.joinLetGo (l.map fun p => (Value.bytes p.1 p.2, none)) keep) Q E s
  | [], _, _, h => wpAny_pure h
  | p :: l, keep, Q, h => by
    rw [List.map_cons]
    unfold Builtin.Bytes.joinLetGo
    refine wpAny_bind ?_
    refine wpAny_bind (wpAny_holding (wpAny_point ?_))
    exact wpAny_pure (letGo_join l h)
theorem parts_len (L : List (Array UInt8 × Tok)) (z : Nat) (hz : z = 0) : Array.foldl (fun x1 (x2 : Array UInt8) => x1 + x2.size) z (List.map (fun x : Array UInt8 × Tok => x.1) L).toArray = ((L.map (·.1.toList)).flatten).length := by
  have key : ∀ (l : List (Array UInt8 × Tok)) (n : Nat), List.foldl (fun x1 (x2 : Array UInt8) => x1 + x2.size) n (l.map (·.1)) = n + ((l.map (·.1.toList)).flatten).length := by
    intro l
    induction l with
    | nil => intro n; rfl
    | cons x l ih =>
      intro n
      rw [List.map_cons, List.foldl_cons, ih]
      simp
      omega
  rw [← Array.foldl_toList]
  show List.foldl _ z (List.map (fun x : Array UInt8 × Tok => x.1) L) = _
  rw [key L z, hz, Nat.zero_add]
theorem take_snoc {α β : Type} (f : α → β) {L : List α} {i : Nat} (hi : i < L.length) : (L.take (i + 1)).map f = (L.take i).map f ++ [f L[i]] := by
  rw [List.take_add_one, List.map_append]
  simp [hi]
theorem jl_any (L : List (Array UInt8 × Tok)) : (L.map fun p : Array UInt8 × Tok => (Value.bytes p.1 p.2, (none : Option Value))).any (fun x => x.1.onHeap) = false := by
  rw [List.any_eq_false]
  intro x hx
  obtain ⟨y, _, rfl⟩ := List.mem_map.mp hx
  exact Bool.false_ne_true
theorem jl_get {L : List (Array UInt8 × Tok)} {i : Nat} (hi : i < L.length) : (List.map (fun p : Array UInt8 × Tok => Value.bytes p.1 p.2) L).toArray.getD i Value.none = Value.bytes L[i].1 L[i].2 := by simp [Array.getD, hi]
theorem jl_size (L : List (Array UInt8 × Tok)) : (List.map (fun p : Array UInt8 × Tok => Value.bytes p.1 p.2) L).toArray.size = L.length := by simp
theorem jl_e (L : List (Array UInt8 × Tok)) : (List.map (fun x : Array UInt8 => x.toList) (List.map (fun x : Array UInt8 × Tok => x.1) L).toArray.toList) = L.map (·.1.toList) := by simp
theorem jl_z (n : Nat) : (#[] : Array UInt8).size * n = 0 := by simp
theorem join_run {a : Addr} {m : Nat} {t : Tok} {ps : List (Array UInt8 × Tok)} {Q : Value → Shared → Prop} (ho : s.heap.get? a = some { cls := .type "list", data := .seq (ps.map fun p => Value.bytes p.1 p.2).toArray m })
    (hz : ((ps.map (·.1.toList)).flatten).length ≤ 1000000)
    (h : ∀ u tk, Q (.bytes (ps.map (·.1.toList)).flatten.toArray u) { s with toks := tk }) :
    wpAny (model prog w) A (Builtin.«bytes.join» ⟨[.bytes #[] t, .ref a], []⟩) (fun fin s' => ∃ v, fin = .done (.ret v) ∧ Q v s') E s := by
  have hseq : ∀ (s' : Shared) (K : Option (Array Value) → Shared → Prop) (E' : Value → Shared → Prop), s'.heap = s.heap → K (some (ps.map fun p => Value.bytes p.1 p.2).toArray) s' → wpAny (model prog w) A (seqItems? (.ref a)) K E' s' := fun s' K E' hh hK => by
    unfold seqItems?
    exact wpAny_bind (wpAny_load (by rw [hh]; exact ho) (wpAny_pure hK))
  show wpAny _ _ (Builtin.Bytes.joinM .bytes ⟨[.bytes #[] t, .ref a], []⟩) _ _ _
  unfold Builtin.Bytes.joinM
  refine wpAny_bind (wpAny_of_eq (show selfAndOne _ _ = pure (Value.bytes #[] t, Value.ref a) from rfl) ?_)
  dsimp only
  refine wpAny_bind ?_
  unfold Builtin.Bytes.joinItems
  refine wpAny_bind (wpAny_typeOf (T := "list") ⟨_, ho, rfl⟩ ?_)
  rw [if_pos (show (((Value.type "list") == (Value.type "list")) || ((Value.type "list") == (Value.type "tuple"))) = true by decide +kernel)]
  refine wpAny_pure ?_
  refine wpAny_bind (hseq s _ E rfl ?_)
  dsimp only
  rw [if_pos (show (Builtin.Bytes.Kind.bytes == Builtin.Bytes.Kind.bytes) = true from rfl)]
  by_cases h1 : ∃ p, ps = [p]
  · obtain ⟨p, rfl⟩ := h1
    show wpAny _ A (typeOf (Value.bytes p.1 p.2) >>= _) _ E s
    refine wpAny_bind (wpAny_typeOf (typeIs_bytes _ _ _) ?_)
    rw [if_pos (show ((Value.type "bytes") == (Value.type "bytes")) = true by decide +kernel)]
    refine wpAny_bind (wpAny_rule (wpAny_pure ⟨_, rfl, ?_⟩))
    have e : (List.map (fun p : Array UInt8 × Tok => p.1.toList) [p]).flatten.toArray = p.1 := by simp
    have := h p.2 s.toks
    rw [e] at this
    exact this
  rcases ps with _ | ⟨p, _ | ⟨q, r⟩⟩
  rotate_left
  · exact absurd ⟨p, rfl⟩ h1
  all_goals show wpAny _ A (forIn _ _ _ >>= _) _ E s
  · generalize (p :: q :: r) = L at *
    refine wpAny_bind (forRange (b := Array.size _) (fun i (c : Array (Array UInt8) × List (Value × Option Value)) s' => s' = s ∧ c = (((L.take i).map (·.1)).toArray, (L.take i).map fun p => (Value.bytes p.1 p.2, none))) ?_ ?_ ⟨rfl, rfl⟩)
    · rintro i c s' hi ⟨rfl, rfl⟩
      rw [jl_size] at hi
      refine wpAny_bind (hseq _ _ E rfl ?_)
      dsimp only
      rw [jl_any, if_neg (by decide), jl_get hi, take_eq]
      refine wpAny_bind (wpAny_holding (wpAny_pure (wpAny_bind (hseq _ _ E rfl ?_))))
      dsimp only
      rw [if_neg (by simp)]
      refine wpAny_pure ⟨rfl, ?_⟩
      rw [take_snoc _ hi, take_snoc _ hi, List.push_toArray]
    · rintro c s' ⟨rfl, rfl⟩
      refine wpAny_bind (wpAny_of_eq (show Builtin.Bytes.payload (Value.bytes #[] t) = pure #[] from rfl) ?_)
      rw [jl_size, List.take_length, parts_len L _ (jl_z _), KBy.tooLong_not (by omega), if_neg (by decide), joined_eq]
      dsimp only
      rw [jl_e]
      refine wpAny_bind (wpAny_mkBytes ?_ (by rw [sizeLine_eq, List.size_toArray]; omega))
      exact wpAny_bind (wpAny_holding (wpAny_point (wpAny_bind (letGo_join L (wpAny_pure ⟨_, rfl, h s'.toks (s'.toks + 1)⟩)))))
  · refine wpAny_bind (forRange (b := Array.size _) (fun _ (c : Array (Array UInt8) × List (Value × Option Value)) s' => s' = s ∧ c = (#[], [])) (fun i c s' hi => absurd hi (Nat.not_lt_zero _)) ?_ ⟨rfl, rfl⟩)
    rintro c s' ⟨rfl, rfl⟩
    refine wpAny_bind (wpAny_of_eq (show Builtin.Bytes.payload (Value.bytes #[] t) = pure #[] from rfl) ?_)
    rw [KBy.tooLong_not (by decide), if_neg (by decide), joined_eq]
    refine wpAny_bind (wpAny_mkBytes ?_ (by decide))
    exact wpAny_bind (wpAny_holding (wpAny_point (wpAny_bind (letGo_join [] (wpAny_pure ⟨_, rfl, h s'.toks (s'.toks + 1)⟩)))))
end
end Mine
end

section
namespace Mine
open PySem PyProof.Rows PySem.W
set_option maxRecDepth 100000

theorem bytes_of {φ : List Addr} : ∀ {vs : List Value} {xs : List MV} {l : List (List Nat)}, VRs φ vs xs → bytesOf xs = some l →
    ∃ ps : List (Array UInt8 × Tok), vs = ps.map (fun p => Value.bytes p.1 p.2) ∧ (ps.map (·.1.toList)).flatten = l.flatten.map UInt8.ofNat ∧ ∀ c ∈ l.flatten, c < 256
  | [], [], l, _, e => by cases e; exact ⟨[], rfl, rfl, fun _ h => nomatch h⟩
  | v :: vs, m :: xs, l, r, e => by
    unfold bytesOf at e
    split at e <;> try (cases e; done)
    · rename_i h; cases h
    · rename_i i r' hm
      cases hm
      obtain ⟨l', e1, e⟩ := bd1_some.mp e
      cases e
      obtain ⟨ps, h1, h2, h3⟩ := bytes_of r.2 e1
      obtain ⟨hb, t, rfl⟩ := r.1
      refine ⟨((i.map UInt8.ofNat).toArray, t) :: ps, by rw [h1]; rfl, ?_, ?_⟩
      · rw [List.map_cons, List.flatten_cons, h2, List.flatten_cons, List.map_append]
      · intro c hc
        rw [List.flatten_cons] at hc
        rcases List.mem_append.mp hc with hc | hc
        · exact hb c hc
        · exact h3 c hc
  | [], _ :: _, _, h, _ => h.elim
  | _ :: _, [], _, h, _ => h.elim
section
variable {prog : Program} {w : World} {hB : Heap} {C : Addr} {n : Nat} {nm : List (Str × NameKind)} {mg mb : Str → Option Value} {K : Frag}
theorem M_join : MethOK prog w hB C n "join" isBy joinV := by
  intro A env nm own k φ ρ σ s a va hA S r hq
  unfold isBy at hq
  split at hq <;> try (cases hq; done)
  rename_i x
  obtain ⟨hb, t, rfl⟩ := r
  refine ⟨"bytes", "bytes.join", FB.plainAttrs_bytes, slot_bytes_join, type_bytes_join, typeIs_bytes _ _ _, (fun ad e => by cases e), fun φ₂ σ₂ s₂ b mv vb σ' S₂ ra rb e Q E G => ?_⟩
  unfold joinV at e
  split at e <;> try (cases e; done)
  rename_i j hx
  cases hx
  split at e <;> try (cases e; done)
  rename_i xs ex
  obtain ⟨l, e1, e⟩ := bd1_some.mp e
  rw [frNs_eq] at e
  obtain ⟨hz, e⟩ := cnd_some.mp e
  cases e
  obtain ⟨ad, vs, m, e2, rfl, e3, rs, hl⟩ := S₂.list ex rb
  obtain ⟨ps, rfl, h2, h3⟩ := bytes_of rs e1
  refine wpAny_call_entry slot_bytes_join (typeIs_bytes _ _ _) entry_bytes_join ?_ (args_bytes_join_2 _ _)
  rw [len_eq] at hz
  have hz := Nat.le_of_ble_eq_true hz
  refine join_run (m := m) e3 (by rw [h2, List.length_map]; exact hz) fun u tk => ?_
  rw [h2]
  exact G.ext S₂ (fun _ _ e => e) ⟨h3, u, rfl⟩
/-- isinstance(x, bytes) -/
theorem SE_isb {x : Expr} {c : CE} {ip np p : Pos} (Gl : Glb hB mg mb) (B : Bi nm mg mb "isinstance" (.builtin "isinstance")) (B' : Bi nm mg mb "bytes" (.type "bytes")) (h : SE prog w hB C n nm x c)
    (ht : ∀ env, backTo p (starEach [x, .Name "bytes" np] env) = [(false, eval x env), (false, eval (.Name "bytes" np) env)]) : SE prog w hB C n nm (.Call (.Name "isinstance" ip) [x, .Name "bytes" np] [] p) (cB1 isbV c) := by
  intro A env own k φ ρ σ s mv σ' hA S e Q E G
  obtain ⟨b, σ₁, e1, e⟩ := bnd_some.mp e
  refine Call_Name (ht env) (name_bi Gl B S (callWith_bi (.inl ⟨_, rfl⟩) rfl (Calls.spliced_cons (h A env own k φ ρ σ s b σ₁ hA S e1 _ E fun va φ₁ h₁ tk₁ x₁ S₁ r₁ => Calls.spliced_cons ?_))))
  refine name_bi (s := { s with heap := h₁, toks := tk₁ }) Gl B' S₁ (Calls.spliced_nil ?_)
  exact isbV_ok (s := { s with heap := h₁, toks := tk₁ }) S₁ r₁ e (G.from x₁)
/-- an attribute of the class itself -/
theorem SE_cls {x name : Str} {v : Value} {mv : MV} {mc : Value} {np p : Pos} (Gl : Glb hB mg mb) (B : Gn nm mg x C) (KX : K.In hB) (hr : readsIn K C mc = true) (hv : findCls K (.ref C) mc name = some (.val v)) (hh : handedIn v = true) (hm : ∀ φ, VR φ v mv) :
    SE prog w hB C n nm (.Attribute (.Name x np) name p) (cVal mv) := by
  intro A env own k φ ρ σ s u σ' hA S e Q E G
  cases e
  refine Attribute_name (name_gl Gl B S ?_)
  exact cls_value (KX.keeps S.base) hr hv hh (G.ext S (fun _ _ e => e) (hm _))
end
end Mine
end

section
namespace Mine
open PySem PyProof.Rows PySem.W
open Sem (wp)
set_option maxRecDepth 100000

/-! Contexts in which no built-in holds a buffer. -/
def holders : List String := ["bytearray.__contains__", "bytearray.__mod__", "bytearray.__rmod__", "_struct.pack_into.held", "bytearray.find.held"] ++ Builtin.Bytes.decodersThatHold
def holdsB (c : Code) : Bool := match c with
  | .builtin id _ => holders.contains id
  | _ => false
def Cln (l : List (Code × Pos)) : Prop := ∀ x ∈ l, holdsB x.1 = false
def wpI {α : Type} (M : Model) (A : Around) (t : Sem α) (Q : α → Shared → Prop) (E : Value → Shared → Prop) (s : Shared) : Prop :=
  ∀ Γ p, Γ.In A → holdsB Γ.code = false → Cln Γ.below → wp M Γ t (fun a _ s' => Q a s') (fun e _ s' => E e s') p s
def codeI (M : Model) (A : Around) (c : Code) (R : Result → Shared → Prop) (s : Shared) : Prop :=
  ∀ Γ p, Γ.code = c → Γ.Below A → Cln Γ.below → wpCode M Γ R p s
section
variable {α β : Type} {M : Model} {A : Around} {E : Value → Shared → Prop} {s : Shared}
theorem wpI_of {t : Sem α} {Q : α → Shared → Prop} (h : wpAny M A t Q E s) : wpI M A t Q E s := fun Γ p hΓ _ _ => h Γ p hΓ
theorem wpI_mono {t : Sem α} {Q Q' : α → Shared → Prop} {E' : Value → Shared → Prop} (h : wpI M A t Q E s)
    (hQ : ∀ a s, Q a s → Q' a s) (hE : ∀ e s, E e s → E' e s) : wpI M A t Q' E' s :=
  fun Γ p hΓ h1 h2 => Sem.wp_mono M Γ t (fun a _ s => hQ a s) (fun e _ s => hE e s) p s (h Γ p hΓ h1 h2)
theorem wpI_bind {m : Sem α} {f : α → Sem β} {Q : β → Shared → Prop} (h : wpI M A m (fun a s' => wpI M A (f a) Q E s') E s) :
    wpI M A (m >>= f) Q E s := fun Γ p hΓ h1 h2 => by
  rw [Sem.wp_bind']
  exact Sem.wp_mono M Γ m (fun a p' s' h' => h' Γ p' hΓ h1 h2) (fun _ _ _ h' => h') p s (h Γ p hΓ h1 h2)
/-- the first part in any context -/
theorem wpI_then {m : Sem α} {f : α → Sem β} {Q : β → Shared → Prop} (h : wpAny M A m (fun a s' => wpI M A (f a) Q E s') E s) : wpI M A (m >>= f) Q E s := wpI_bind (wpI_of h)
theorem wpI_pure {a : α} {Q : α → Shared → Prop} (h : Q a s) : wpI M A (pure a) Q E s := fun _ _ _ _ _ => h
theorem wpI_onRaise {m : Sem α} {k : Value → Sem Unit} {Q : α → Shared → Prop}
    (h : wpI M A m Q (fun e s' => wpI M A (k e) (fun _ s'' => E e s'') E s') s) : wpI M A (m.onRaise k) Q E s := fun Γ p hΓ h1 h2 => by
  rw [Sem.wp_onRaise]
  exact Sem.wp_mono M Γ m (fun _ _ _ h' => h') (fun e p' s' h' => h' Γ p' hΓ h1 h2) p s (h Γ p hΓ h1 h2)
theorem wpI_holding {vs : List Value} {m : Sem α} {Q : α → Shared → Prop} (h : wpI M A m Q E s) : wpI M A (holding vs m) Q E s :=
  fun Γ p hΓ h1 h2 => by rw [Sem.wp_holding]; exact h Γ p hΓ h1 h2
theorem wpI_keep {vs : List Value} {m : Sem α} {Q : α → Shared → Prop} (h : wpI M A m Q E s) : wpI M A (m.keep vs) Q E s :=
  fun Γ p hΓ h1 h2 => by rw [Sem.wp_keep]; exact h Γ p hΓ h1 h2
theorem Cln.cons {Γ : Ctx} {p : Pos} (h1 : holdsB Γ.code = false) (h2 : Cln Γ.below) : Cln ((Γ.code, p) :: Γ.below) := fun x hx => by
  rcases List.mem_cons.mp hx with rfl | hx
  · exact h1
  · exact h2 x hx
theorem wpI_run {c : Code} {h : Option Value} {Q : Flow → Shared → Prop}
    (hc : codeI M (A.mark h) c (fun r s' => match r with | .ok f => Q f s' | .error e => E e s') s) (hnb : h ≠ some byPass := by intro x; cases x) :
    wpI M A (run c h) Q E s :=
  fun Γ p hΓ h1 h2 => by rw [Sem.wp_run]; exact hc _ p rfl (hΓ.enter c h p hnb) (Cln.cons h1 h2)
theorem wpI_runValue {c : Code} {Q : Value → Shared → Prop}
    (hc : codeI M A c (fun r s' => match r with | .ok (.ret v) => Q v s' | .ok _ => False | .error e => E e s') s) :
    wpI M A (runValue c) Q E s := fun Γ p hΓ h1 h2 => by rw [Sem.wp_runValue]; exact hc _ p rfl (hΓ.enter c none p (by intro x; cases x)) (Cln.cons h1 h2)
theorem wpI_call {f : Value} {pos : List Value} {kw : List (Str × Value)} {Q : Value → Shared → Prop}
    (hc : codeI M A (.call f ⟨pos, kw⟩) (fun r s' => match r with | .ok (.ret v) => Q v s' | .ok _ => False | .error e => E e s') s) :
    wpI M A (call f pos kw) Q E s := wpI_runValue hc
theorem codeI_mono {c : Code} {R R' : Result → Shared → Prop} (h : codeI M A c R s) (hR : ∀ r s, R r s → R' r s) : codeI M A c R' s :=
  fun Γ p hc hΓ h2 => wpCode_mono hR (h Γ p hc hΓ h2)
theorem codeI_of_tree {c : Code} {R : Result → Shared → Prop} (hok : holdsB c = false)
    (h : wpI M (A.under c) (M.den c) (fun fin s' => match fin with | .done f => R (.ok f) s' | .again c' => c'.quiet = true ∧ codeI M A c' R s')
      (fun e s' => R (.error e) s') s) : codeI M A c R s := fun Γ p hc hΓ h2 => by
  rw [wpCode_iff_wp, hc]
  refine Sem.wp_mono M Γ _ (fun fin p' s' h' => ?_) (fun _ _ _ h' => h') p s (h Γ p (hc ▸ hΓ.in) (hc ▸ hok) h2)
  cases fin with
  | done f => exact h'
  | again c' => exact ⟨h'.1, h'.2 (Γ.goto c') p' rfl (hΓ.goto c') h2⟩
theorem codeI_loop' {c : Code} {R : Result → Shared → Prop} (hok : holdsB c = false) (hq : c.quiet = true) (I : Nat → Shared → Prop)
    (turn : ∀ n s, I n s → wpI M (A.under c) (M.den c)
      (fun fin s' => match fin with
        | .done f => R (.ok f) s'
        | .again c' => (c' = c ∧ ∃ m, m < n ∧ I m s') ∨ (c'.quiet = true ∧ codeI M A c' R s')) (fun e s' => R (.error e) s') s)
    (n : Nat) (h : I n s) : codeI M A c R s := by
  induction n using Nat.strongRecOn generalizing s with
  | ind n ih =>
    refine codeI_of_tree hok (wpI_mono (turn n s h) (fun fin s' hf => ?_) fun _ _ h' => h')
    cases fin with
    | done f => exact hf
    | again c' =>
      rcases hf with ⟨rfl, m, hm, hI⟩ | hf
      · exact ⟨hq, ih m hm hI⟩
      · exact hf
theorem any_key {f : Code × Pos → Bool} (hf : ∀ x, holdsB x.1 = false → f x = false) {l : List (Code × Pos)} (hl : Cln l) : l.any f = false := by
  rw [List.any_eq_false]
  intro x hx
  rw [hf x (hl x hx)]
  exact Bool.false_ne_true
theorem held_id {id : String} (h : holders.contains id = false) : Builtin.Bytes.decodersThatHold.contains id = false :=
  Bool.eq_false_iff.mpr fun q => Bool.false_ne_true (h.symm.trans (List.contains_iff_mem.mpr (List.mem_append_right _ (List.contains_iff_mem.mp q))))
theorem ne_id {id j : String} (h : holders.contains id = false) (hj : holders.contains j = true) : id ≠ j := fun e => Bool.false_ne_true (h.symm.trans (e ▸ hj))
theorem wpI_exported {v : Value} {Q : Bool → Shared → Prop} (h : Q false s) : wpI M A (Builtin.Bytes.exported v) Q E s := fun Γ p _ h1 h2 => by
  refine cast (congrArg (fun b => Q b s) (any_key (l := (Γ.code, p) :: Γ.below) ?_ (Cln.cons h1 h2)).symm) h
  intro x hx
  obtain ⟨c, p⟩ := x
  cases c with
  | builtin id args =>
    have hx : holders.contains id = false := hx
    delta Builtin.Bytes.exported.match_1 Builtin.Bytes.exported._sparseCasesOn_1
    dsimp only
    rw [dif_neg (ne_id (j := "bytearray.__contains__") hx (by decide +kernel)), dif_neg (ne_id (j := "bytearray.__mod__") hx (by decide +kernel)), dif_neg (ne_id (j := "bytearray.__rmod__") hx (by decide +kernel)), dif_neg (ne_id (j := "_struct.pack_into.held") hx (by decide +kernel)), dif_neg (ne_id (j := "bytearray.find.held") hx (by decide +kernel))]
    obtain ⟨pos, kw⟩ := args
    cases pos with
    | nil => rfl
    | cons u r =>
      show (_ && Builtin.Bytes.decodersThatHold.contains id) = false
      rw [held_id hx, Bool.and_false]
  | _ => rfl
end
end Mine
end

section
namespace Mine
open PySem PyProof.Rows PySem.W
open Sem (wp)
set_option maxRecDepth 100000

section
variable {prog : Program} {w : World} {A : Around} {E : Value → Shared → Prop} {s : Shared} {R : Result → Shared → Prop}
theorem codeI_func {body : List Stmt} {env : Env}
    (h : wpI (model prog w) (A.deeper env) (execs body env) (fun f s' => R (.ok (.ret (match f with | .ret v => v | _ => .none))) s') (fun _ _ => False) s) : codeI (model prog w) A (.func body env) R s := by
  refine codeI_of_tree rfl ?_
  show wpI _ (A.deeper env) (do point; match ← (execs body env).onRaise (leaving env) with | .ret v => ret v | _ => ret .none) _ _ s
  refine wpI_then (wpAny_point (wpI_bind (wpI_onRaise (wpI_mono h (fun f s' h' => ?_) fun _ _ h' => h'.elim))))
  cases f <;> exact wpI_pure h'
theorem codeI_call_cells {a : Addr} {o : Obj} {fd : FuncData} {body : List Stmt} {vals : List Value} {binds : List (Str × Value)}
    (hroom : A.depth < recursionLimit) (ho : s.heap.get? a = some o) (hdata : o.data = .func fd) (hlim : s.heap.NoLimit) (hcd : s.heap.CodeRec fd.code fd.qualname)
    (hbody : fd.body = .stmts body) (hbind : bindArgs fd ⟨vals, []⟩ = pure binds) (hclo : fd.closure = [])
    (hkind : ∀ x ∈ binds, fd.scope.names.lookup x.1 = some .local ∨ (fd.scope.names.lookup x.1 = some .cell ∧ ((cellsFrom (s.heap.objs.size + 1) fd.scope.names []).lookup x.1).isSome = true))
    (h : ∀ s₁, InCallC s (callEnvC fd s.heap.objs.size a).locals (bindL (callEnvC fd s.heap.objs.size a).kindOf binds fun _ => none) (callEnvC fd s.heap.objs.size a).cells
        (bindC (callEnvC fd s.heap.objs.size a).kindOf binds fun _ => none) s₁ →
      wpI (model prog w) (A.deeper (callEnvC fd s.heap.objs.size a)) (execs body (callEnvC fd s.heap.objs.size a)) (fun f s' => R (.ok (.ret (match f with | .ret v => v | _ => .none))) s') (fun _ _ => False) s₁)
    (hco : fd.scope.isCoroutine = false) (hgen : fd.scope.isGenerator = false) (hk : fd.scope.kind = .function) :
    codeI (model prog w) A (.call (.ref a) ⟨vals, []⟩) R s := by
  refine codeI_of_tree rfl ?_
  show wpI _ A.in1 (callAny (.ref a) ⟨vals, []⟩) _ _ s
  simp only [callAny]
  refine wpI_then (wpAny_load ho ?_)
  obtain ⟨c, oc, vs, tq, hc, hoc, hdc, hq⟩ := hcd
  simp only [hdata, callFunction, hco, hgen, hbody, hc]
  refine wpI_then (m := field (.ref c) 1) (wpAny_field hoc hdc hq ?_)
  refine wpI_then (wpAny_pure ?_)
  rw [hbind, hclo]
  refine wpI_then (wpAny_pure ?_)
  have hc' : fd.code = .ref c := hc
  refine wpI_then (wpAny_newFunctionEnv_cells hk hkind fun env he s' x => ?_)
  rw [← hc'] at he
  subst he
  exact wpI_then (wpAny_enterFrame (hlim.keeps x.toInCall.keep) hroom (wpI_pure ⟨rfl, codeI_func (h s' x)⟩))
theorem codeI_block {stmts : List Stmt} {env : Env} (h : wpI (model prog w) A (execs stmts env) (fun f s' => R (.ok f) s') (fun _ _ => False) s) : codeI (model prog w) A (.block stmts env) R s := by
  refine codeI_of_tree rfl ?_
  show wpI _ _ (do return Fin.done (← (execs stmts env).onRaise (fun x => do noteFrame x env; theTreesLotGoes x))) _ _ s
  exact wpI_bind (wpI_onRaise (wpI_mono h (fun f s' h' => wpI_pure h') fun _ _ h' => h'.elim))
theorem codeI_forLoop {target : Expr} {it : Value} {body : List Stmt} {env : Env} (I : Nat → Shared → Prop)
    (turn : ∀ n s, I n s → wpAny (model prog w) A (pyNext it) (fun r s₁ => match r with
      | none => R (.ok .next) s₁
      | some v => wpAny (model prog w) A (letOwnedTupleGo target it v) (fun _ s₁' =>
          wpAny (model prog w) A (assign target env v) (fun _ s₂ => wpI (model prog w) A (execs body env) (fun f s₃ => match f with
            | .next | .cont => ∃ m, m < n ∧ I m s₃
            | .brk => R (.ok .next) s₃
            | .ret v => R (.ok (.ret v)) s₃) (fun _ _ => False) s₂) (fun _ _ => False) s₁') (fun _ _ => False) s₁) (fun _ _ => False) s)
    (n : Nat) (h : I n s) : codeI (model prog w) A (.forLoop target it body [] env) R s := by
  refine codeI_loop' rfl rfl I (fun n s hI => ?_) n h
  show wpI _ A ((forTurn target it body [] env).onRaise (fun x => do noteFrame x env; theTreesLotGoes x)) _ _ s
  refine wpI_onRaise (wpI_mono (Q := fun fin s' => match fin with
        | .done f => R (.ok f) s'
        | .again c' => (c' = .forLoop target it body [] env ∧ ∃ m, m < n ∧ I m s') ∨ (c'.quiet = true ∧ codeI (model prog w) A c' R s')) (E := fun _ _ => False) ?_ (fun _ _ q => q) fun _ _ q => q.elim)
  simp only [forTurn]
  refine wpI_then (wpAny_standAt (wpI_then (wpAny_onRaise (wpAny_mono (turn n s hI) (fun r s₁ h₁ => ?_) fun _ _ h' => h'.elim))))
  cases r with
  | none => exact wpI_pure (.inr ⟨rfl, codeI_block (wpI_of (wpAny_execs_nil h₁))⟩)
  | some v =>
    refine wpI_then (wpAny_mono h₁ (fun _ s₁' h₁' => ?_) fun _ _ h' => h')
    refine wpI_then (wpAny_mono h₁' (fun _ s₂ h₂ => wpI_bind (wpI_mono h₂ (fun f s₃ h₃ => ?_) fun _ _ h' => h')) fun _ _ h' => h')
    cases f with
    | next => exact wpI_pure (.inl ⟨rfl, h₃⟩)
    | cont => exact wpI_pure (.inl ⟨rfl, h₃⟩)
    | brk => exact wpI_pure h₃
    | ret v => exact wpI_pure h₃
theorem wpI_runOwn {c : Code} {env : Env} {Q : Flow → Shared → Prop} (hc : codeI (model prog w) A c (fun r s' => match r with | .ok f => Q f s' | .error _ => False) s) : wpI (model prog w) A (runOwn c env) Q E s := by
  unfold runOwn
  refine wpI_onRaise (wpI_run (codeI_mono hc fun r s' h => ?_))
  cases r with
  | ok f => exact h
  | error e => exact h.elim
theorem callWith_functionI {pos : Pos} {a : Addr} {o : Obj} {fd : FuncData} {first : List Value} {args : List (Bool × Sem Value)} {Q : Value → Shared → Prop}
    (h : wpAny (model prog w) A (evalArgs (.ref a) true args []) (fun x s₁ => (s₁.heap.get? a = some o ∧ o.data = .func fd) ∧ wpI (model prog w) A (call (.ref a) (first ++ x.pos) x.kw) Q E s₁) E s) :
    wpI (model prog w) A (callWith pos (.ref a) first args []) Q E s := by
  unfold callWith
  refine wpI_then (wpAny_holding (wpAny_mono h (fun x s₁ h₁ => wpI_then (wpAny_standAt ?_)) fun _ _ x => x))
  have tail : ∀ {t : Sem Value}, wpI (model prog w) A t Q E s₁ → wpI (model prog w) A (t >>= fun r => holding [r] point >>= fun _ => pure r) Q E s₁ :=
    fun ht => wpI_bind (wpI_mono ht (fun r s₂ hr => wpI_then (wpAny_holding (wpAny_point (wpI_pure hr)))) fun _ _ x => x)
  cases hs : args.any (·.1) <;> simp only [List.any_nil, Bool.or_false] <;>
    refine wpI_bind (m := keeperOf (.ref a)) (wpI_of ?_) <;> unfold keeperOf <;>
    refine wpAny_bind (wpAny_load h₁.1.1 ?_) <;> rw [h₁.1.2] <;> refine wpAny_pure ?_
  · show wpI _ _ (if _ then _ else _) _ _ _
    split
    · exact tail h₁.2
    · exact tail (t := callMarked plainCall (.ref a) (first ++ x.pos) x.kw) (by unfold callMarked; exact wpI_keep h₁.2)
  · exact tail (t := callMarked starredCall (.ref a) (first ++ x.pos) x.kw) (by unfold callMarked; exact wpI_keep h₁.2)
end
end Mine
end

section
namespace Mine
open PySem PyProof.Rows PySem.W
open Sem (wp)
set_option maxRecDepth 100000

section
variable {prog : Program} {w : World} {hB : Heap} {C : Addr} {n : Nat} {nm : List (Str × NameKind)} {mg mb : Str → Option Value} {K : Frag}
def SEI (prog : Program) (w : World) (hB : Heap) (C : Addr) (n : Nat) (nm : List (Str × NameKind)) (e : Expr) (c : CE) : Prop :=
  ∀ (A : Around) (env : Env) (own : List Addr) (k : Kx) (φ : List Addr) (ρ : Lo) (σ : Hp) (s : Shared) (mv : MV) (σ' : Hp),
    AOK n A → Stt hB C env nm own k φ ρ σ s.heap → c k ρ σ = some (mv, σ') →
    ∀ (Q : Value → Shared → Prop) (E : Value → Shared → Prop), Gv hB C env nm own k φ ρ σ' mv s Q → wpI (model prog w) A (eval e env) Q E s
def SSI (prog : Program) (w : World) (hB : Heap) (C : Addr) (n : Nat) (nm : List (Str × NameKind)) (st : Stmt) (c : CS) : Prop :=
  ∀ (A : Around) (env : Env) (own : List Addr) (k : Kx) (φ : List Addr) (ρ : Lo) (σ : Hp) (s : Shared) (mf : MF) (ρ' : Lo) (σ' : Hp),
    AOK n A → Stt hB C env nm own k φ ρ σ s.heap → c k ρ σ = some (mf, ρ', σ') →
    ∀ (Q : Flow → Shared → Prop) (E : Value → Shared → Prop), Gs hB C env nm own k φ mf ρ' σ' s Q → wpI (model prog w) A (exec st env) Q E s
def SBI (prog : Program) (w : World) (hB : Heap) (C : Addr) (n : Nat) (nm : List (Str × NameKind)) (ss : List Stmt) (c : CS) : Prop :=
  ∀ (A : Around) (env : Env) (own : List Addr) (k : Kx) (φ : List Addr) (ρ : Lo) (σ : Hp) (s : Shared) (mf : MF) (ρ' : Lo) (σ' : Hp),
    AOK n A → Stt hB C env nm own k φ ρ σ s.heap → c k ρ σ = some (mf, ρ', σ') →
    ∀ (Q : Flow → Shared → Prop) (E : Value → Shared → Prop), Gs hB C env nm own k φ mf ρ' σ' s Q → wpI (model prog w) A (execs ss env) Q E s
def FKI (prog : Program) (w : World) (hB : Heap) (C : Addr) (n : Nat) (f : Value) (F : FS) : Prop :=
  ∀ (A : Around) (φ : List Addr) (σ : Hp) (s : Shared) (vs : List Value) (ms : List MV) (mv : MV) (σ' : Hp), AOK n A → Sto hB C φ σ s.heap → VRs φ vs ms → F σ ms = some (mv, σ') →
    ∀ R : Result → Shared → Prop, (∀ v φ' h' tk, Fin1 hB C φ s.heap φ' σ' h' → VR φ' v mv → R (.ok (.ret v)) { s with heap := h', toks := tk }) → codeI (model prog w) A (.call f ⟨vs, []⟩) R s
theorem SSI.of {e : Stmt} {c : CS} (h : SS prog w hB C n nm e c) : SSI prog w hB C n nm e c := fun A env own k φ ρ σ s mf ρ' σ' hA S e Q E G => wpI_of (h A env own k φ ρ σ s mf ρ' σ' hA S e Q E G)
theorem SBI.of {e : List Stmt} {c : CS} (h : SB prog w hB C n nm e c) : SBI prog w hB C n nm e c := fun A env own k φ ρ σ s mf ρ' σ' hA S e Q E G => wpI_of (h A env own k φ ρ σ s mf ρ' σ' hA S e Q E G)
theorem SBI_cons {st : Stmt} {ss : List Stmt} {c : CS} {cs : List CS} (h : SSI prog w hB C n nm st c) (hs : SBI prog w hB C n nm ss (sSeq cs)) : SBI prog w hB C n nm (st :: ss) (sSeq (c :: cs)) := by
  intro A env own k φ ρ σ s mf ρ' σ' hA S e Q E G
  have e : andThen (c k ρ σ) (fun ρ σ => sSeq cs k ρ σ) = some (mf, ρ', σ') := e
  cases ec : c k ρ σ with
  | none => rw [ec] at e; cases e
  | some p =>
    obtain ⟨f, ρ₁, σ₁⟩ := p
    rw [ec] at e
    rw [execs_cons]
    refine wpI_bind (h A env own k φ ρ σ s f ρ₁ σ₁ hA S ec _ E fun fl φ₁ h₁ tk₁ x₁ S₁ r₁ => ?_)
    cases f with
    | next => cases r₁; exact hs A env own k φ₁ ρ₁ σ₁ _ mf ρ' σ' hA S₁ e Q E (G.from x₁)
    | brk => cases r₁; cases e; exact wpI_pure (G .brk φ₁ h₁ tk₁ x₁ S₁ rfl)
    | ret v => obtain ⟨u, rfl, r⟩ := r₁; cases e; exact wpI_pure (G _ φ₁ h₁ tk₁ x₁ S₁ ⟨u, rfl, r⟩)
theorem SSI_nm {i : Nat} {x : Str} {q p : Pos} {v : Expr} {c : CE} (hx : Nmd nm i x) (h : SEI prog w hB C n nm v c) (hs : ∀ env, swapsWith v (some (.Name x q)) p.line env = pure false) : SSI prog w hB C n nm (.Assign [.Name x q] v p) (sNm i c) := by
  intro A env own k φ ρ σ s mf ρ' σ' hA S e Q E G
  obtain ⟨u, σ₁, e1, e⟩ := bnd_some.mp e
  rw [setK_eq] at e
  cases e
  rw [exec_Assign_Name _ _ _ _ _ (hs env)]
  refine wpI_then (wpAny_standAt (wpI_bind (h A env own k φ ρ σ s u _ hA S e1 _ E fun va φ₁ h₁ tk₁ x₁ S₁ r₁ => ?_)))
  refine wpI_then (wpAny_standAt (wpI_then (wpAny_bindName (store_name S₁ hx r₁ fun h' tk x₂ S₂ => wpI_pure ?_))))
  exact (G.from x₁) .next φ₁ h' tk x₂ S₂ rfl
theorem call_FKI {A : Around} {env : Env} {own : List Addr} {k : Kx} {φ : List Addr} {ρ : Lo} {σ σ' : Hp} {s : Shared} {f : Value} {F : FS} {vs : List Value} {ms : List MV} {mv : MV} (hF : FKI prog w hB C n f F) (hA : AOK n A) (S : Stt hB C env nm own k φ ρ σ s.heap) (r : VRs φ vs ms) (e : F σ ms = some (mv, σ'))
    {Q : Value → Shared → Prop} {E : Value → Shared → Prop} (G : Gv hB C env nm own k φ ρ σ' mv s Q) : wpI (model prog w) A (call f vs) Q E s := by
  refine wpI_call (hF A φ σ s vs ms mv σ' hA S.sto r e _ fun v φ' h' tk fin rv => ?_)
  obtain ⟨x, S'⟩ := resume_fin S fin
  exact G v φ' h' tk x S' rv
theorem SEI_call {x : Str} {a : Addr} {o : Obj} {fd : FuncData} {np p : Pos} {es : List Expr} {cs : List CE} {F : FS} (Gl : Glb hB mg mb) (B : Gn nm mg x a) (ho : hB.get? a = some o) (hod : o.data = .func fd) (hF : FKI prog w hB C n (.ref a) F) (h : SEs prog w hB C n nm es cs) (hne : es ≠ [])
    (ht : ∀ env, backTo p (starEach es env) = es.map fun e => (false, eval e env)) : SEI prog w hB C n nm (.Call (.Name x np) es [] p) (cCall F cs) := by
  intro A env own k φ ρ σ s mv σ' hA S e Q E G
  obtain ⟨ms, σ₁, e1, e⟩ := bnd_some.mp e
  show wpI _ _ (eval (.Name x np) env >>= fun f => callWith p f [] (backTo p (starEach es env)) []) _ _ _
  rw [ht env]
  refine wpI_then (name_gl Gl B S ?_)
  obtain ⟨e₀, es', rfl⟩ : ∃ e₀ es', es = e₀ :: es' := by
    cases es with
    | nil => exact absurd rfl hne
    | cons a b => exact ⟨a, b, rfl⟩
  refine callWith_functionI (o := o) (fd := fd) (Calls.evalArgs_plain (args_any (es := e₀ :: es') hA h S e1 fun vs φ₁ h₁ tk₁ x₁ S₁ r₁ => ⟨⟨S₁.base a o ho, hod⟩, ?_⟩))
  exact call_FKI (s := { s with heap := h₁, toks := tk₁ }) hF hA S₁ r₁ e (G.from x₁)
theorem FKI_def {a : Addr} {fd : FuncData} {body : List Stmt} {pn : List Str} {ps : List Nat} {c : CS} {nv : Nat} (D : Dfn hB a fd body pn) (N : Nms fd.scope.names ps pn) (hlim : hB.NoLimit) (hnv : fd.scope.names.length = nv) (hb : SBI prog w hB C n fd.scope.names body c) :
    FKI prog w hB C (n + 1) (.ref a) (fDef nv ps c) := by
  subst hnv
  intro A φ σ s vs ms mv σ' hA S r e R G
  obtain ⟨ρ, e1, e2⟩ := fDef_some e
  obtain ⟨f, ρ', e3, e4⟩ := retF_some e2
  obtain ⟨o, ho, hod⟩ := D.ho
  have hlen : vs.length = pn.length := by rw [r.length, ← bindP_length e1, N.len]
  refine codeI_call_cells (by have := hA.depth; show _ < 1000; omega) (S.base _ _ ho) hod (hlim.keeps S.base) (D.code.keeps S.base) D.body_ (D.bind vs hlen) D.clo (zip_kind N.nd N.par N.len) (fun s₁ x => ?_) D.co D.gen D.kind
  have S₁ := callee_stt D N S r e1 x
  obtain ⟨h₁, tk₁, rfl⟩ := x.toInCall.same
  refine hb (A.deeper _) _ _ ⟨σ.length, []⟩ φ ρ σ _ f ρ' σ' ⟨hA.handled, by have := hA.depth; show A.depth + 1 + n ≤ 900; omega, by have := hA.units; show A.units + 3 + 10 * n ≤ 9000; omega⟩ S₁ e3 _ _ fun fl φ' h' tk X S' rf => ?_
  have hown : ∀ b ∈ s.heap.objs.size :: cellAd fd.scope.names (cellsFrom (s.heap.objs.size + 1) fd.scope.names []), s.heap.get? b = none := fun b hb => by
    rcases List.mem_cons.mp hb with rfl | hb
    · exact get?_size _
    · obtain ⟨y, _, hl⟩ := cellAd_mem hb
      exact Heap.get?_none_of_le (Nat.le_of_lt (x.above y b (PySem.mem_of_lookup hl)))
  have fin := fin_of (x.toInCall.keep) hown S.len X S'
  rcases e4 with ⟨rfl, rfl⟩ | rfl
  · cases rf
    exact G .none φ' h' tk fin rfl
  · obtain ⟨u, rfl, ru⟩ := rf
    exact G u φ' h' tk fin ru
theorem FKI.mono {n m : Nat} {f : Value} {F : FS} (h : FKI prog w hB C n f F) (hm : n ≤ m) : FKI prog w hB C m f F :=
  fun A φ σ s vs ms mv σ' hA => h A φ σ s vs ms mv σ' (hA.mono hm)
end
end Mine
end

section
namespace Mine
open PySem PyProof.Rows PySem.W
open Sem (wp)
set_option maxRecDepth 100000
section
variable {prog : Program} {w : World} {hB : Heap} {C : Addr} {n : Nat} {nm : List (Str × NameKind)} {mg mb : Str → Option Value} {K : Frag}
theorem for_loopI {A : Around} {env : Env} {own : List Addr} {k : Kx} {φ₀ : List Addr} {ρ₀ ρ' : Lo} {σ₀ σ' : Hp} {s : Shared} {target : Expr} {body : List Stmt} {cb : CS} {I : Addr} {fp wr : List Addr} {N : Nat}
    {P Md : Nat → Value → Heap → Prop} {St : Nat → Heap → Prop} {mf : MF} {R : Result → Shared → Prop} (hb : SBI prog w hB C n nm body cb) (hA : AOK n A) (W : W.KTurns prog w A target I fp wr N P Md St)
    (live : ∀ i h, St i h → ∀ b ∈ fp, ∃ o, h.get? b = some o) (bindAt : Nat → Hp → Lo → Option Lo) (hasg : Binds prog w hB C nm A env own k φ₀ target P bindAt)
    (lp : Nat → Lo → Hp → RS) (lp0 : ∀ ρ σ, lp N ρ σ = some (.next, ρ, σ)) (lpS : ∀ i ρ σ, i < N → lp i ρ σ = bd1 (bindAt i σ ρ) fun ρ => turnOn (cb k ρ σ) (lp (i + 1)))
    (S : Stt hB C env nm own k φ₀ ρ₀ σ₀ s.heap) (st : St 0 s.heap) (hfp : ∀ b ∈ fp, ¬ Ft k own φ₀ b) (hal : ∀ b ∈ wr, Alien hB env own φ₀ b)
    (e : lp 0 ρ₀ σ₀ = some (mf, ρ', σ'))
    (hR : ∀ f φ' h' h'' tk, Stw wr (Ft k own φ₀) φ₀ s.heap φ' h' → (∀ b o, b ∉ wr → h'.get? b = some o → h''.get? b = some o) → Stt hB C env nm own k φ' ρ' σ' h'' → FlR φ' f mf → R (.ok f) { s with heap := h'', toks := tk }) :
    codeI (model prog w) A (.forLoop target (.ref I) body [] env) R s := by
  refine codeI_forLoop
    (fun m s' => ∃ i φ ρ σ h tk, s' = { s with heap := h, toks := tk } ∧ m = N + 1 - i ∧ i ≤ N ∧ Stt hB C env nm own k φ ρ σ h ∧ St i h ∧ Stw wr (Ft k own φ₀) φ₀ s.heap φ h ∧ lp i ρ σ = some (mf, ρ', σ')) ?_ (N + 1)
    ⟨0, φ₀, ρ₀, σ₀, s.heap, s.toks, rfl, rfl, Nat.zero_le _, S, st, .refl, e⟩
  rintro m s' ⟨i, φ, ρ, σ, h, tk, rfl, rfl, hi, S', st', X, e'⟩
  obtain ⟨t, rfl, ht⟩ := X.pre
  have l0 : ∀ b ∈ fp, ∃ o, s.heap.get? b = some o := live 0 _ st
  have hal' : ∀ b ∈ wr, Alien hB env own (φ₀ ++ t) b := fun b hb => (hal b hb).later (l0 b (W.sub b hb)) ht
  have hfp' : ∀ b ∈ fp, ¬ Ft k own (φ₀ ++ t) b := fun b hb q => by
    obtain ⟨o, eo⟩ := l0 b hb
    exact hfp b hb (q.back eo ht)
  by_cases hlt : i < N
  · rw [lpS i ρ σ hlt] at e'
    obtain ⟨ρ₁, e1, e2⟩ := bd1_some.mp e'
    obtain ⟨f, ρ₂, σ₂, ec, e3⟩ := bndS_some.mp e2
    refine W.item i _ _ _ hlt st' fun v h₁ tk₁ hMd hk₁ => ?_
    refine W.go i v _ _ _ hMd fun h₂ hP st₂ hk₂ => ?_
    have up : ∀ b o, b ∉ wr → h.get? b = some o → h₂.get? b = some o := fun b o hb z => hk₂ b o hb (hk₁ b o hb z)
    have S₂ := S'.alien hal' up
    refine hasg i v t ρ σ ρ₁ _ _ _ hP S₂ e1 fun h₃ tk₃ x₃ S₃ => ?_
    have st₃ : St (i + 1) h₃ := W.frame _ _ _ st₂ fun b hb o z => x₃.keep b o z (hfp' b hb)
    refine hb A env own k _ ρ₁ σ _ f ρ₂ σ₂ hA S₃ ec _ _ fun fl φ₄ h₄ tk₄ x₄ S₄ r₄ => ?_
    have X₂ : Stw wr (Ft k own (φ₀ ++ t)) (φ₀ ++ t) h (φ₀ ++ t) h₂ := ⟨⟨[], by simp, fun _ z => nomatch z⟩, fun b o z _ q => up b o q z, fun b o z => by
      by_cases q : b ∈ wr
      · exact live _ _ st₂ b (W.sub b q)
      · exact ⟨o, up b o q z⟩⟩
    have X₄ := ((X.trans X₂).trans (Stp.stw x₃)).trans (Stp.stw x₄)
    cases f with
    | next =>
      cases r₄
      exact ⟨N + 1 - (i + 1), by omega, i + 1, φ₄, ρ₂, σ₂, h₄, tk₄, rfl, rfl, hlt, S₄, W.frame _ _ _ st₃ fun b hb o z => x₄.keep b o z (hfp' b hb), X₄, e3⟩
    | brk =>
      cases r₄
      cases e3
      exact hR .next φ₄ h₄ h₄ tk₄ X₄ (fun _ _ _ z => z) S₄ rfl
    | ret v =>
      obtain ⟨u, rfl, r⟩ := r₄
      cases e3
      exact hR (.ret u) φ₄ h₄ h₄ tk₄ X₄ (fun _ _ _ z => z) S₄ ⟨u, rfl, r⟩
  · have hin : i = N := by omega
    subst hin
    rw [lp0] at e'
    cases e'
    refine W.done _ _ _ st' fun h₁ tk₁ hk₁ => ?_
    exact hR .next _ h h₁ tk₁ X hk₁ (S'.alien hal' hk₁) rfl
/-- a loop over what is taken; its end -/
theorem loop_itsI {A : Around} {env : Env} {own : List Addr} {k : Kx} {φ₀ : List Addr} {ρ₀ ρ' : Lo} {σ₀ σ' : Hp} {s : Shared} {target : Expr} {body : List Stmt} {cb : CS} {t : MT} {its : Its} {h₁ : Heap} {I : Addr} {fp wr : List Addr}
    {P Md : Nat → Value → Heap → Prop} {St : Nat → Heap → Prop} {mf : MF} {R : Result → Shared → Prop} (hb : SBI prog w hB C n nm body cb) (hA : AOK n A) (ht : Tgt nm t target)
    (D : Itd prog w hB C A env nm own k φ₀ ρ₀ σ₀ target its h₁ s.heap I fp wr P Md St) (e : loopI t its cb k ρ₀ σ₀ = some (mf, ρ', σ'))
    (hR : ∀ f φ' h' tk, Stp (Ft k own φ₀) φ₀ h₁ φ' h' → Stt hB C env nm own k φ' ρ' σ' h' → FlR φ' f mf → R (.ok f) { s with heap := h', toks := tk }) :
    codeI (model prog w) A (.forLoop target (.ref I) body [] env) R s := by
  have fin : ∀ f φ' h' h'' tk, Stw wr (Ft (k.still its.fz) own φ₀) φ₀ s.heap φ' h' → (∀ b o, b ∉ wr → h'.get? b = some o → h''.get? b = some o) → Stt hB C env nm own (k.still its.fz) φ' ρ' σ' h'' → FlR φ' f mf → R (.ok f) { s with heap := h'', toks := tk } :=
    fun f φ' h' h'' tk x y S r => hR f φ' h'' tk (x.close D.ext D.fresh y fun b z => z.still) (S.rek (still_n0 k its.fz).symm) r
  have S₀ := D.stt.rek (k' := k.still its.fz) (still_n0 k its.fz)
  cases its with
  | plain f xs =>
    refine for_loopI (n := n) hb hA D.turns D.live (fun i σ ρ => bd1 xs[i]? (bindT σ ρ t)) ?_ (fun i ρ σ => forP (cb (k.still f)) t (xs.drop i) ρ σ) ?_ ?_ S₀ D.st D.nft D.ali e fin
    · intro i v u ρ σ ρ₁ s' K E hP S e G
      obtain ⟨m, hm, r⟩ := D.item i v _ hP
      simp only [hm] at e
      obtain ⟨_, e0, e⟩ := bd1_some.mp e
      cases e0
      cases t with
      | one j =>
        obtain ⟨x, p, rfl, hx⟩ := ht
        have e : setK ρ j (some m) some = some ρ₁ := e
        rw [setK_eq] at e
        cases e
        exact wpAny_assign_Name (store_name S hx r.mono G)
      | many is =>
        obtain ⟨es, q, p, rfl, hn⟩ := ht
        exact assign_tup hA hn S r.mono e G
    · intro ρ σ
      show forP _ _ (xs.drop xs.length) _ _ = _
      rw [List.drop_length]; rfl
    · intro i ρ σ hi
      obtain ⟨x, e1, e2⟩ := drop_at (xs := xs) hi
      simp only [e1, e2]
      rfl
  | enum f xs =>
    cases t with
    | one j => cases e
    | many is =>
      match is, e with
      | [i₁, j₁], e =>
        obtain ⟨es, q, p, rfl, hn⟩ := ht
        refine for_loopI (n := n) hb hA D.turns D.live (fun i _ ρ => bd1 xs[i]? fun m => some (setAt (setAt ρ i₁ (some (.int (.ofNat i)))) j₁ (some m))) ?_ (fun i ρ σ => forE (cb (k.still f)) i₁ j₁ (xs.drop i) i ρ σ) ?_ ?_ S₀ D.st D.nft D.ali e fin
        · intro i v u ρ σ ρ₁ s' K E hP S e G
          obtain ⟨T, tk, y, m, rfl, hT, hm, r⟩ := D.item i v _ hP
          simp only [hm] at e
          obtain ⟨_, e0, e⟩ := bd1_some.mp e
          cases e0
          cases e
          obtain ⟨f1, f2, f3⟩ := hn.each (env := env)
          refine wpAny_assign_Tuple (items := #[.int i tk, y]) hA.handled hT (by rw [f2]; rfl) f3 fun h' x' => ?_
          rw [f1]
          have z := HExt.but x' (get?_size _)
          refine inOrder (s := { s' with heap := h' }) hn (ms := [.int (.ofNat i), m]) (ρ' := setAt (setAt ρ i₁ (some (MV.int (Int.ofNat i)))) j₁ (some m)) ⟨⟨_, rfl⟩, r.mono, trivial⟩ (by simp only [setMany, setK_eq]) (S.ext z) fun h'' tk x₂ S₂ => ?_
          exact G h'' tk ((Stp.ext z).trans x₂) S₂
        · intro ρ σ
          show forE _ _ _ (xs.drop xs.length) _ _ _ = _
          rw [List.drop_length]; rfl
        · intro i ρ σ hi
          obtain ⟨x, e1, e2⟩ := drop_at (xs := xs) hi
          simp only [e1, e2]
          show frN i (fun n => setK ρ i₁ (some (.int (.ofNat n))) fun ρ => setK ρ j₁ (some x) fun ρ => turnOn (cb (k.still f) ρ σ) (forE (cb (k.still f)) i₁ j₁ (xs.drop (i + 1)) (Nat.add n 1))) = _
          rw [frN_eq, setK_eq, setK_eq]
          rfl
      | [], e => cases e
      | [_], e => cases e
      | _ :: _ :: _ :: _, e => cases e
theorem SSI_for {target iter : Expr} {body : List Stmt} {p : Pos} {t : MT} {ci : CI} {cb : CS} (ht : Tgt nm t target) (hi : SI prog w hB C n nm target iter ci) (hb : SBI prog w hB C n nm body cb)
    (hs : ∀ env x, foldedSetIterable iter env x = pure x) : SSI prog w hB C n nm (.For target iter body [] p) (sFor t ci cb) := by
  intro A env own k φ ρ σ s mf ρ' σ' hA S e Q E G
  obtain ⟨its, σ₁, e1, e⟩ := bnd_some.mp e
  rw [exec_For]
  refine wpI_then (wpAny_standAt (wpI_then (wpAny_mono (hi A env own k φ ρ σ s its σ₁ hA S e1 (fun it s₂ => wpI (model prog w) A (runOwn (.forLoop target it body [] env) env) Q E s₂) E fun I φ₁ h₁ h₂ tk fp wr P Md St x₁ D => ?_)
    (fun x s₁ h₁ => ?_) fun _ _ h' => h')))
  · refine wpI_runOwn ?_
    exact loop_itsI hb hA ht D e fun f φ' h' tk x S' r => (G.from x₁ (tk := tk)) f φ' h' tk x S' r
  · refine wpI_then (wpAny_of_eq (hs env x) ?_)
    refine wpI_then (wpAny_standAt ?_)
    exact wpI_then (wpAny_holding (wpAny_mono h₁ (fun it s₂ h₂ => h₂) fun _ _ h' => h'))
end
end Mine
end

section
namespace Mine
open PySem PyProof.Rows PySem.W
set_option maxRecDepth 100000
theorem slot_ba_init : Slot "bytearray" "__init__" "bytearray.__init__" :=
  .of (owner := "bytearray") (n := "__init__") (by rw [typeLookup_type, builtinLookup_eq_fast]; kernel_rfl) (by decide +kernel) (by decide +kernel) (by decide +kernel)
    (by first | exact .inl (by decide +kernel) | exact .inr (by decide +kernel)) (by rw [isSubtype_type]; kernel_rfl)
theorem entry_ba_init : entryFor table "bytearray.__init__" = some Builtin.«bytearray.__init__» := entryFor_of_tree (by kernel_rfl)
theorem owner_ba : Manifest.owners.lookup (String.ofList ['y', 'a', 'r', 'r', 'a', 'e', 't', 'y', 'b'].reverse) = some Manifest.sig_bytearray := by kernel_rfl
theorem args_ba_init_2 (a b : Value) : argsOk "bytearray.__init__" ⟨[a, b], []⟩ := by
  unfold argsOk; rw [signature?_of (id := "bytearray.__init__") (n := ['_', '_', 't', 'i', 'n', 'i', '_', '_']) (o := ['y', 'a', 'r', 'r', 'a', 'e', 't', 'y', 'b']) (by kernel_rfl) owner_ba]; kernel_rfl
theorem mro_ba : mroOf (.type "bytearray") = pure [.type "bytearray", .type "object"] := by rw [mroOf_type]; kernel_rfl
theorem lookup_ba_new : typeLookup (.type "bytearray") "__new__" = pure (some (.builtin "bytearray.__new__")) := by rw [typeLookup_type, builtinLookup_eq_fast]; kernel_rfl
theorem entry_ba_new : entryFor table "bytearray.__new__" = some Builtin.«list.__new__» :=
  entryFor_alias (id' := "list.__new__") (by rw [fastTable_eq_tree]; kernel_rfl) (by decide +kernel) (by decide +kernel) (by rw [fastTable_eq_tree]; kernel_rfl)
theorem plain_ba_new : plainId "bytearray.__new__" = true := by decide +kernel
theorem called_ba : TypeCalled "bytearray" "bytearray.__new__" "bytearray.__init__" :=
  ⟨by decide +kernel, by decide +kernel, ⟨_, _, mro_ba⟩, madeBy_type mro_ba lookup_ba_new (by decide +kernel), by decide +kernel, by rw [isSubtype_type]; kernel_rfl, slot_ba_init⟩
theorem typeCall_ba_1 (a : Value) : checkTypeCall "bytearray" ⟨[a], []⟩ = pure () := by kernel_rfl
theorem newCall_ba_1 (a : Value) : checkBuiltinCall "bytearray.__new__" ⟨[.type "bytearray", a], []⟩ = pure () := by kernel_rfl
theorem sub_ba_self : isSubtype (.type "bytearray") (.type "bytearray") = pure true := by rw [isSubtype_type]; kernel_rfl
set_option maxRecDepth 1000000 in
set_option maxHeartbeats 4000000 in
theorem owner_ba_new : ("bytearray.__new__".splitOn ".__new__").headD "" = "bytearray" := by simp +decide [String.splitOn, String.splitOnAux]

theorem look_release_ba : typeLookup (.type "bytearray") "__release_buffer__" = pure (some (.builtin "bytearray.__release_buffer__")) := by rw [typeLookup_type, builtinLookup_eq_fast]; kernel_rfl
theorem look_buffer_ba : typeLookup (.type "bytearray") "__buffer__" = pure (some (.builtin "bytearray.__buffer__")) := by rw [typeLookup_type, builtinLookup_eq_fast]; kernel_rfl
theorem ends_release : (("bytearray.__release_buffer__" : String).endsWith ("." ++ "__release_buffer__")) = true := by decide +kernel
theorem drop_release : (("bytearray.__release_buffer__" : String).dropRight ("__release_buffer__".length + 1)) = "bytearray" := by decide +kernel
theorem ends_buffer : (("bytearray.__buffer__" : String).endsWith ("." ++ "__buffer__")) = true := by decide +kernel
theorem drop_buffer : (("bytearray.__buffer__" : String).dropRight ("__buffer__".length + 1)) = "bytearray" := by decide +kernel
section
variable {prog : Program} {w : World} {A : Around} {E : Value → Shared → Prop} {s : Shared} {R : Result → Shared → Prop}
theorem own_release_ba {b : Addr} {o : Obj} {Q : Bool → Shared → Prop} (ho : s.heap.get? b = some o) (hc : o.cls = .type "bytearray") (h : Q false s) : wpAny (model prog w) A (Builtin.Bytes.ownRelease (.ref b)) Q E s := by
  have hT : s.TypeIs (.ref b) "bytearray" := ⟨o, ho, hc⟩
  unfold Builtin.Bytes.ownRelease Builtin.Bytes.slotIsOwn
  refine wpAny_bind (wpAny_bind (wpAny_specialOf (name := Str.ofString "__release_buffer__") hT look_release_ba ?_))
  dsimp only
  rw [ends_release, drop_release]
  exact wpAny_isInstance hT sub_ba_self (wpAny_pure h)
theorem write_ba {b : Addr} {x : Array UInt8} {k : Nat} {f : Array UInt8 → Array UInt8} {Q : Unit → Shared → Prop} (ho : s.heap.get? b = some { cls := .type "bytearray", data := .bytearray x k }) (hz : (f x).size ≤ 1000000)
    (h : ∀ h', Heap.SameBut b s.heap h' → h'.get? b = some { cls := .type "bytearray", data := .bytearray (f x) k } → Q () { s with heap := h' }) : wpAny (model prog w) A (Builtin.Bytes.write (.ref b) f) Q E s := by
  show wpAny _ A (updateBytearray b f) _ _ _
  unfold updateBytearray
  refine wpAny_bind (wpAny_load ho ?_)
  have hs : (s.heap.update b (Obj.mapBytearray f)).get? b = some { cls := .type "bytearray", data := .bytearray (f x) k } := Heap.get?_update_self _ ho rfl
  refine wpAny_bind (wpAny_update ho (wpAny_lookBehind hs ?_ (h _ (Heap.SameBut.update ..) hs)))
  show (if (f x).size > sizeLine then some "bytearray:memory" else none) = none
  rw [if_neg (by rw [sizeLine_eq]; omega)]
theorem codeI_builtin {id : String} {args : Args} {b : Builtin} (hok : holdsB (.builtin id args) = false) (hb : entryFor table id = some b)
    (h : wpI (model prog w) (A.under (.builtin id args)) (b args)
      (fun fin s' => match fin with | .done f => R (.ok f) s' | .again c' => c'.quiet = true ∧ codeI (model prog w) A c' R s') (fun e s' => R (.error e) s') s) :
    codeI (model prog w) A (.builtin id args) R s := by
  refine codeI_of_tree hok ?_
  show wpI _ _ (match entryFor table id with | some b => b args | none => unsupported ((withoutEnding? id "#data").getD id)) _ _ s
  rw [hb]; exact h
theorem code_ba_new (a : Value) {Q₁ : Value → Shared → Prop}
    (h : Q₁ (.ref s.heap.objs.size) { s with heap := s.heap.push { cls := .type "bytearray", data := .bytearray #[] } }) :
    codeAny (model prog w) A (.call (.builtin "bytearray.__new__") ⟨[.type "bytearray", a], []⟩) (wants Q₁ E) s := by
  refine codeAny_of_tree ?_
  show wpAny _ A.in1 (do checkBuiltinCall "bytearray.__new__" ⟨[.type "bytearray", a], []⟩; again (.builtin "bytearray.__new__" ⟨[.type "bytearray", a], []⟩)) _ _ s
  refine wpAny_bind (wpAny_of_eq (newCall_ba_1 a) (wpAny_pure ⟨plainId_quiet plain_ba_new _, codeAny_builtin_stack entry_ba_new rfl fun p st => ?_⟩))
  rw [Around.under_plainId plain_ba_new _]
  have hsub := sub_ba_self
  have hown := owner_ba_new
  obtain ⟨hp, g, d, tk, os⟩ := s
  simp only [hown]
  wp_walk
  exact h
theorem init_ba {b : Addr} {i : Nat} {t : Tok} {Q : Fin → Shared → Prop} (ho : s.heap.get? b = some { cls := .type "bytearray", data := .bytearray #[] }) (hi : i ≤ 1000000)
    (h : ∀ h', Heap.SameBut b s.heap h' → h'.get? b = some { cls := .type "bytearray", data := .bytearray (Array.replicate i 0) } → Q (.done (.ret .none)) { s with heap := h' }) :
    wpI (model prog w) A (Builtin.«bytearray.__init__» ⟨[.ref b, .int (Int.ofNat i) t], []⟩) Q E s := by
  unfold Builtin.«bytearray.__init__»
  refine wpI_then (own_release_ba ho rfl ?_)
  rw [if_neg (by decide)]
  refine wpI_then (wpAny_of_eq (show Builtin.Bytes.bindOptional "bytearray.__init__" "bytearray" ["source", "encoding", "errors"] [Value.int (Int.ofNat i) t] [] = pure [some (Value.int (Int.ofNat i) t), none, none] from rfl) ?_)
  refine wpI_then (wpAny_pure (a := ()) ?_)
  refine wpI_then (wpAny_pure (a := ()) ?_)
  refine wpI_bind ?_
  unfold orM
  refine wpI_bind (wpI_exported ?_)
  show wpI _ _ (Builtin.Bytes.exportsOf (.ref b) >>= fun n => pure (decide (n > 0))) _ _ _
  have hex : ∀ (K : Nat → Shared → Prop) (E' : Value → Shared → Prop), K 0 s → wpAny (model prog w) A (Builtin.Bytes.exportsOf (.ref b)) K E' s := fun K E' hK => by
    unfold Builtin.Bytes.exportsOf
    exact wpAny_bind (wpAny_load ho (wpAny_pure hK))
  refine wpI_then (hex _ _ (wpI_pure ?_))
  rw [if_neg (by decide)]
  refine wpI_then (write_ba ho (Nat.zero_le _) fun h₁ hs₁ ho₁ => ?_)
  refine wpI_of ?_
  generalize hn : Int.ofNat i = n
  have hs : asStr? (.int n t) = pure none := rfl
  have hix : asIndex (.int n t) = pure n := rfl
  dsimp only
  refine wpAny_bind (wpAny_of_eq hs ?_)
  rw [if_neg (by decide)]
  refine wpAny_bind (wpAny_pure (a := ()) ?_)
  refine wpAny_bind (wpAny_specialOf (name := Str.ofString "__index__") (typeIs_int _ _ t) F.slot_int_index.lookup ?_)
  rw [if_pos (by rfl), hix]
  refine wpAny_bind (wpAny_attempt (wpAny_pure ?_))
  dsimp only
  have hn0 : 0 ≤ n := by rw [← hn]; exact Int.natCast_nonneg i
  have hn1 : n ≤ 1000000 := by rw [← hn]; show (i : Int) ≤ _; omega
  have hnat : n.toNat = i := by rw [← hn]; rfl
  have hfit : Builtin.Bytes.fitsIndex n = true := by
    unfold Builtin.Bytes.fitsIndex
    simp only [Bool.and_eq_true, decide_eq_true_eq]
    omega
  have hne : (n == 2 ^ 63 - 1) = false := by
    rw [beq_eq_false_iff_ne]
    intro h
    omega
  rw [hfit, if_neg (by decide), if_neg (by omega), hne, if_neg (by decide), hnat, KBy.tooLong_not (by omega), if_neg (by decide)]
  refine wpAny_bind (wpAny_rule ?_)
  by_cases hp : n > 0
  · rw [if_pos hp]
    refine wpAny_bind (write_ba (s := { s with heap := h₁ }) ho₁ (by simp; omega) fun h₂ hs₂ ho₂ => wpAny_pure ?_)
    exact h h₂ (hs₁.trans hs₂) ho₂
  · rw [if_neg hp]
    have : i = 0 := by omega
    subst this
    exact wpAny_pure (h h₁ hs₁ ho₁)
/-- bytearray(n), in a clean context -/
theorem call_ba {i : Nat} {t : Tok} {Q : Value → Shared → Prop} (hi : i ≤ 1000000)
    (h : ∀ h', (∀ b o, s.heap.get? b = some o → h'.get? b = some o) → h'.get? s.heap.objs.size = some { cls := .type "bytearray", data := .bytearray (Array.replicate i 0) } → Q (.ref s.heap.objs.size) { s with heap := h' }) :
    wpI (model prog w) A (call (.type "bytearray") [.int (Int.ofNat i) t]) Q E s := by
  obtain ⟨c, tl, hmro⟩ := called_ba.mro
  refine wpI_call (codeI_of_tree rfl ?_)
  show wpI _ _ (callAny (.type "bytearray") _) _ _ _
  refine wpI_pure ⟨Code.quiet_builtin _ (by decide +kernel), codeI_builtin (show holders.contains "type.__call__" = false by decide +kernel) F.entry_type_call ?_⟩
  rw [Around.under_plain (weight_type_call_type "bytearray" _ []) rfl]
  unfold Builtin.«type.__call__»
  dsimp only
  rw [if_neg (by rw [called_ba.notType]; exact Bool.false_ne_true)]
  rw [if_neg fun q => absurd (called_ba.canCreate.symm.trans q) Bool.false_ne_true]
  refine wpI_then (wpAny_of_eq (typeCall_ba_1 _) ?_)
  refine wpI_then (wpAny_of_eq mro_ba ?_)
  rw [if_neg (by decide)]
  refine wpI_then (wpAny_of_eq called_ba.made ?_)
  dsimp only
  refine wpI_then (wpAny_pure ?_)
  have hT : ∀ (tk : Nat), Shared.TypeIs { s with heap := s.heap.push { cls := .type "bytearray", data := .bytearray #[] }, toks := tk } (.ref s.heap.objs.size) "bytearray" := fun tk => ⟨_, Heap.get?_push_size _ rfl, rfl⟩
  refine wpI_then (wpAny_holding (wpAny_call (codeAny_mono (code_ba_new (Q₁ := fun v s' => v = .ref s.heap.objs.size ∧ s' = { s with heap := s.heap.push { cls := .type "bytearray", data := .bytearray #[] } }) (E := fun _ _ => False) _ ⟨rfl, rfl⟩) fun r s' hr => ?_)))
  rcases r with e | fl
  · exact hr.elim
  cases fl with
  | ret v =>
    obtain ⟨rfl, rfl⟩ := hr
    refine wpI_then (wpAny_isInstance (hT s.toks) sub_ba_self ?_)
    rw [if_neg (by decide)]
    refine wpI_bind (wpI_holding ?_)
    unfold callSpecial?
    refine wpI_then (wpAny_specialOf (hT s.toks) slot_ba_init.lookup ?_)
    dsimp only
    refine wpI_holding (wpI_then (wpAny_of_eq (slot_ba_init.bind _) ?_))
    dsimp only
    refine wpI_bind (wpI_call (codeI_of_tree rfl ?_))
    show wpI _ A.in1.in1 (do checkBuiltinCall "bytearray.__init__" ⟨[.ref s.heap.objs.size, .int (Int.ofNat i) t], []⟩; again (.builtin "bytearray.__init__" ⟨[.ref s.heap.objs.size, .int (Int.ofNat i) t], []⟩)) _ _ _
    refine wpI_then (slot_ba_init.check _ _ _ _ _ _ _ _ (hT s.toks) (args_ba_init_2 _ _) ?_)
    refine wpI_pure ⟨plainId_quiet slot_ba_init.plain _, codeI_builtin (show holders.contains "bytearray.__init__" = false by decide +kernel) entry_ba_init ?_⟩
    rw [Around.under_plainId slot_ba_init.plain _]
    refine init_ba (Heap.get?_push_size _ rfl) hi fun h' hs ho => ?_
    refine wpI_pure ?_
    dsimp only
    rw [if_neg (by decide)]
    refine wpI_pure (h h' (fun b o e => (hs.2 b fun q => ?_).trans (Heap.get?_push_of_some _ e)) ho)
    rw [q, get?_size] at e
    cases e
  | _ => exact hr.elim
end
end Mine
end

section
namespace Mine
open PySem PyProof.Rows PySem.W
open Sem (wp)
set_option maxRecDepth 100000

theorem no_bytes_ba : typeLookup (.type "bytearray") "__bytes__" = pure none := by rw [typeLookup_type, builtinLookup_eq_fast]; kernel_rfl
theorem no_index_ba : typeLookup (.type "bytearray") "__index__" = pure none := by rw [typeLookup_type, builtinLookup_eq_fast]; kernel_rfl
section
variable {prog : Program} {w : World} {A : Around} {E : Value → Shared → Prop} {s : Shared} {R : Result → Shared → Prop}
theorem bytes_new_ba {b : Addr} {x : Array UInt8} {k : Nat} {Q : Value → Shared → Prop} (ho : s.heap.get? b = some { cls := .type "bytearray", data := .bytearray x k }) (hz : x.size ≤ 1000000)
    (hQ : ∀ t tk, Q (.bytes x t) { s with toks := tk }) : codeAny (model prog w) A (.call (.builtin "bytes.__new__") ⟨[.type "bytes", .ref b], []⟩) (wants Q E) s := by
  refine codeAny_of_tree ?_
  show wpAny _ A.in1 (do checkBuiltinCall "bytes.__new__" ⟨[.type "bytes", .ref b], []⟩; again (.builtin "bytes.__new__" ⟨[.type "bytes", .ref b], []⟩)) _ _ s
  refine wpAny_bind (wpAny_of_eq (F.bm_newCall _) (wpAny_pure ⟨plainId_quiet F.bm_plain _, codeAny_builtin F.bm_entry ?_⟩))
  rw [Around.under_plainId F.bm_plain _]
  have hT : s.TypeIs (.ref b) "bytearray" := ⟨_, ho, rfl⟩
  unfold Builtin.«bytes.__new__»
  refine wpAny_bind (wpAny_of_eq (a := true) rfl ?_)
  refine bm_if_false rfl ?_
  refine wpAny_bind (wpAny_of_eq F.bm_sub ?_)
  refine bm_if_false rfl ?_
  refine wpAny_bind (wpAny_of_eq (F.bm_bind _) ?_)
  refine wpAny_bind (wpAny_of_eq (a := ()) rfl ?_)
  refine wpAny_bind (wpAny_of_eq (a := ()) rfl ?_)
  refine bm_if_false rfl ?_
  refine wpAny_bind (wpAny_specialOf hT no_bytes_ba ?_)
  refine wpAny_bind (wpAny_bind ?_)
  show wpAny _ _ (load b >>= _) _ _ _
  refine wpAny_bind (wpAny_load ho ?_)
  refine wpAny_pure (wpAny_pure ?_)
  refine bm_if_false rfl ?_
  refine wpAny_bind (wpAny_specialOf hT no_index_ba ?_)
  refine bm_if_true rfl ?_
  first
    | show wpAny _ _ (Builtin.Bytes.buffer? "bytes.__new__" (.ref b) true >>= _) _ _ _
    | (refine wpAny_bind ?_; show wpAny _ _ (Builtin.Bytes.buffer? "bytes.__new__" (.ref b) true >>= _) _ _ _)
  refine wpAny_bind ?_
  unfold Builtin.Bytes.buffer?
  refine wpAny_bind (wpAny_specialOf (name := Str.ofString "__buffer__") hT look_buffer_ba ?_)
  dsimp only
  refine wpAny_bind ?_
  unfold Builtin.Bytes.slotIsOwn
  refine wpAny_bind (wpAny_specialOf (name := Str.ofString "__buffer__") hT look_buffer_ba ?_)
  dsimp only
  rw [ends_buffer, drop_buffer]
  refine wpAny_isInstance hT sub_ba_self ?_
  refine bm_if_false rfl ?_
  refine wpAny_bind (wpAny_specialOf (name := Str.ofString "__buffer__") hT look_buffer_ba ?_)
  show wpAny _ _ (Builtin.Bytes.ownRelease (.ref b) >>= _) _ _ _
  refine wpAny_bind (own_release_ba ho rfl ?_)
  refine bm_if_false rfl ?_
  refine wpAny_bind ?_
  unfold Builtin.Bytes.payload Builtin.Bytes.payload?
  refine wpAny_bind (wpAny_bind (wpAny_load ho ?_))
  refine wpAny_pure (wpAny_pure (wpAny_pure ?_))
  dsimp only
  refine wpAny_bind (wpAny_rule ?_)
  refine wpAny_bind (wpAny_mkBytes ?_ (by rw [sizeLine_eq]; omega))
  first
    | (show wpAny _ _ (if (Value.type "bytes" == Value.type "bytes") = true then _ else _) _ _ _
       refine bm_if_true (by decide) ?_
       first
         | exact wpAny_pure (hQ _ _)
         | exact wpAny_bind (wpAny_pure (wpAny_pure (hQ _ _))))
    | (refine wpAny_bind ?_
       show wpAny _ _ (if (Value.type "bytes" == Value.type "bytes") = true then _ else _) _ _ _
       refine bm_if_true (by decide) ?_
       first
         | exact wpAny_pure (wpAny_pure (hQ _ _))
         | exact wpAny_bind (wpAny_pure (wpAny_pure (wpAny_pure (hQ _ _)))))
theorem call_bytes_ba {b : Addr} {x : Array UInt8} {k : Nat} {Q : Value → Shared → Prop} (ho : s.heap.get? b = some { cls := .type "bytearray", data := .bytearray x k }) (hz : x.size ≤ 1000000)
    (hQ : ∀ t tk, Q (.bytes x t) { s with toks := tk }) : wpAny (model prog w) A (call (.type "bytes") [.ref b]) Q E s := by
  refine callType_codes (Q₁ := fun obj s₁ => s₁.TypeIs obj "bytes" ∧ Q obj s₁) F.bm_called (F.bm_typeCall _) F.entry_object_init
    (bytes_new_ba ho hz fun t tk => ⟨PySem.W.typeIs_bytes _ _ _, hQ t tk⟩) fun obj s₁ h₁ => ?_
  exact ⟨h₁.1, F.args_object_init_2 obj _, object_init_meets F.bm_called.init.lookup F.bm_called.made (by decide) prog w A.in1 _ s₁ ⟨h₁.1, rfl, h₁.2⟩⟩
theorem callWith_typeI {pos : Pos} {T : String} {t : Sem Value} {ts : List (Bool × Sem Value)} {Q : Value → Shared → Prop} (hp : ((false, t) :: ts).any (·.1) = false)
    (h : wpAny (model prog w) A (spliced ((false, t) :: ts)) (fun vs s₁ => wpI (model prog w) A (call (.type T) vs) Q E s₁) E s) :
    wpI (model prog w) A (callWith pos (.type T) [] ((false, t) :: ts) []) Q E s := by
  unfold callWith
  refine wpI_then (wpAny_holding (Calls.evalArgs_plain (wpAny_mono h (fun vs s₁ h₁ => wpI_then (wpAny_standAt ?_)) fun _ _ x => x)))
  simp only [hp, List.any_nil, Bool.or_false]
  refine wpI_then (m := keeperOf (.type T)) (wpAny_pure ?_)
  show wpI _ _ (call (.type T) vs [] >>= fun r => holding [r] point >>= fun _ => pure r) _ _ _
  exact wpI_bind (wpI_mono h₁ (fun r s₂ hr => wpI_then (wpAny_holding (wpAny_point (wpI_pure hr)))) fun _ _ x => x)
end
section
variable {prog : Program} {w : World} {hB : Heap} {C : Addr} {n : Nat} {nm : List (Str × NameKind)} {mg mb : Str → Option Value} {K : Frag}
theorem Stt.barr {env : Env} {own : List Addr} {k : Kx} {φ : List Addr} {ρ : Lo} {σ : Hp} {h : Heap} (S : Stt hB C env nm own k φ ρ σ h) {i : Nat} {x : List Nat} {v : Value} (e : getO σ i = some (.barr x)) (r : VR φ v (.ref i)) :
    ∃ ad, φ[i]? = some ad ∧ v = .ref ad ∧ h.get? ad = some { cls := .type "bytearray", data := .bytearray (x.map UInt8.ofNat).toArray } ∧ ∀ c ∈ x, c < 256 := by
  unfold getO at e
  rw [nth_eq] at e
  obtain ⟨a, o, e1, e2, hb, rfl⟩ := S.obj i _ e
  obtain ⟨a', e', rfl⟩ := r
  rw [e1] at e'
  cases e'
  exact ⟨a, e1, rfl, e2, hb⟩
theorem F1_bytes : F1OK prog w hB C n (.type "bytes") bytesV := by
  intro A env nm own k φ ρ σ s a mv va σ' hA S r e Q E G
  unfold bytesV at e
  split at e <;> try (cases e; done)
  rename_i j
  split at e <;> try (cases e; done)
  · rename_i x ex
    obtain ⟨l, e1, e⟩ := bd1_some.mp e
    rw [frNs_eq] at e
    cases e
    exact F1_bytes_list hA S r ex e1 G
  · rename_i x ex
    obtain ⟨hz, e⟩ := chk_some.mp e
    cases e
    obtain ⟨ad, _, rfl, ho, hb⟩ := S.barr ex r
    refine call_bytes_ba ho (by simp; exact hz) fun t tk => ?_
    exact G.ext S (fun _ _ e => e) ⟨hb, t, rfl⟩
theorem rep_list (n : Nat) (c : Nat) : rep n [c] = List.replicate n c := by
  induction n with
  | zero => rfl
  | succ n ih =>
    have : rep (n + 1) [c] = app [c] (rep n [c]) := rfl
    rw [this, ih, app_eq]; rfl
/-- bytearray(n) -/
theorem SEI_barr {x : Expr} {c : CE} {np p : Pos} (Gl : Glb hB mg mb) (B : Bi nm mg mb "bytearray" (.type "bytearray")) (h : SE prog w hB C n nm x c) (ht : ∀ env, backTo p (starEach [x] env) = [(false, eval x env)]) :
    SEI prog w hB C n nm (.Call (.Name "bytearray" np) [x] [] p) (cB1 barrV c) := by
  intro A env own k φ ρ σ s mv σ' hA S e Q E G
  obtain ⟨b, σ₁, e1, e⟩ := bnd_some.mp e
  show wpI _ _ (eval (.Name "bytearray" np) env >>= fun f => callWith p f [] (backTo p (starEach [x] env)) []) _ _ _
  rw [ht env]
  refine wpI_then (name_bi Gl B S ?_)
  refine callWith_typeI rfl (Calls.spliced_cons (h A env own k φ ρ σ s b σ₁ hA S e1 _ E fun va φ₁ h₁ tk₁ x₁ S₁ r₁ => Calls.spliced_nil ?_))
  unfold barrV at e
  split at e <;> try (cases e; done)
  rename_i i
  obtain ⟨hz, e⟩ := cnd_some.mp e
  rw [frNs_eq] at e
  have hz := Nat.le_of_ble_eq_true hz
  obtain ⟨t, rfl⟩ := r₁
  have e : new σ₁ (.barr (rep i [0])) = some (mv, σ') := e
  obtain ⟨rfl, rfl⟩ := new_some e
  refine call_ba (s := { s with heap := h₁, toks := tk₁ }) hz fun h' hk ho => ?_
  refine Gv.fresh (G.from x₁ (tk := tk₁)) S₁ hk (get?_size _) ho ⟨fun c hc => ?_, ?_⟩
  · rw [rep_list] at hc
    rw [List.eq_of_mem_replicate hc]; decide
  · rw [rep_list, List.map_replicate]
    simp
end
end Mine
end

section
set_option maxRecDepth 100000
namespace Mine
open PySem PySem.W PySem.Spec PySem.Calls PyProof.Rows

theorem caller_ok : holdsB (.builtin "claim.caller" {}) = false := by decide +kernel
/-- the head's walk, in the claim's own context -/
theorem ends_I {prog : Program} {w : World} {t : Sem Fin} {s : Shared} {R : Result → Shared → Prop} (hreg : s.asleep)
    (h : wpI (model prog w) callerA t (fun fin s' => ∃ f, fin = .done f ∧ (R (.ok f) s' ∧ leftWithCleanup s'.gens = false)) (fun e s' => R (.error e) s' ∧ leftWithCleanup s'.gens = false) s) :
    ∃ n r s' s'', runN (denote table) prog w n s ⟨t, .builtin "claim.caller" {}, default, []⟩ = .halted (outcomeOf r) s' ∧
      schedN (denote table) prog w n (.single s ⟨t, .builtin "claim.caller" {}, default, []⟩) = .halted (outcomeOf r) s' ∧ s'.forget = s''.forget ∧ R r s'' := by
  have hw : Sem.wp (model prog w) ⟨.builtin "claim.caller" {}, none, none, [], none⟩ t (Sem.finPost (model prog w) ⟨.builtin "claim.caller" {}, none, none, [], none⟩ fun r s' => R r s' ∧ leftWithCleanup s'.gens = false)
      (fun e _ s' => R (.error e) s' ∧ leftWithCleanup s'.gens = false) default s := by
    refine Sem.wp_mono _ _ t (fun fin p' s' h' => ?_) (fun _ _ _ h' => h') default s (h _ default caller_in caller_ok fun x hx => nomatch hx)
    obtain ⟨f, rfl, hf⟩ := h'
    exact hf
  obtain ⟨n, r, s₁, s₂, hs, hn, hfo, hR⟩ := wp_halts_full (M := model prog w) (R := R) hreg hw
  exact ⟨n, r, s₂, s₁, hn, hs, hfo, hR⟩
theorem callFrom_I {c : ClaimW} {tree : List Value → Sem Fin} {w : World} {s : Shared} {free : Addr → Prop} {gens : Prop} {kept : Heap → Prop} (hz : s.asleep) (hgens : s.gens = #[])
    (hspec : ∀ args, c.pre args = true → WData.layableAll args = true →
      ∀ ord : List DictEntry → List DictEntry, (∀ l, (ord l).Perm l) →
      ∃ vs s₁, layAllW c.records (classAt s.heap) w.params ord args s = some (vs, s₁) ∧
        wpI (model c.prog w) callerA (tree vs) (fun fin s' => ∃ f, fin = .done f ∧ (c.Ends s args vs s₁ (.ok f) s' ∧ s'.os = s.os ∧ AllBare s'.gens ∧ kept s'.heap))
          (fun e s' => c.Ends s args vs s₁ (.error e) s' ∧ s'.os = s.os ∧ AllBare s'.gens ∧ kept s'.heap) s₁) :
    c.CallFrom (fun vs => ⟨tree vs, .builtin "claim.caller" {}, default, []⟩) w free gens kept s := by
  intro args hpre hlay ord hord
  obtain ⟨vs, s₁, hlaid, hcode⟩ := hspec args hpre hlay ord hord
  have hal := layAllW_rest _ _ _ hlaid
  obtain ⟨k, r, s', s'', hrun, hsched, hfo, hcase, hos, hkp⟩ := ends_I (prog := c.prog) (w := w) (t := tree vs) (s := s₁)
    (R := fun r s' => c.Ends s args vs s₁ r s' ∧ s'.os = s.os ∧ kept s'.heap)
    (Shared.asleep_of_life hal.2.2.2 hz)
    (wpI_mono hcode (by
      rintro fin s' ⟨f, e, h1, h2, h3, h4⟩
      exact ⟨f, e, ⟨h1, h2, h4⟩, leftWithCleanup_false_of_bare h3⟩) (by
      rintro e s' ⟨h1, h2, h3, h4⟩
      exact ⟨⟨h1, h2, h4⟩, leftWithCleanup_false_of_bare h3⟩))
  obtain ⟨eh, _, _, eo, _⟩ := Shared.forget_eq hfo
  have hcase := hcase.congr eh
  have hkp : kept s'.heap := by rw [eh]; exact hkp
  rw [← eo] at hos
  have hlife : s'.heap.life = s.heap.life := (runN_life _ _ _ hrun).trans hal.2.2.2
  refine ⟨vs, s₁, hlaid, k, _, s', hsched, ?_, (fun _ i x hx => by rw [hgens] at hx; simp at hx), hkp, by rw [hlife], Shared.rest_eq hos⟩
  rcases hcase with ⟨v, rfl, d1, d2, d3, d4, d5⟩ | ⟨e, ob, cls, rfl, d1, d2, d3, d4, d5⟩
  · exact .inl ⟨v, rfl, d1, d2, d3, fun b o y _ => d4 b o y, d5⟩
  · exact .inr ⟨e, ob, cls, rfl, d1, d2, d3, d4, fun b o y _ => d5 b o y⟩
abbrev WalkI (q : Program) (loose : List Str) (XP : (Str → Option Value) → Heap → Prop) {α : Type} (Yf : Shared → α) (Ya : World → α) (r : RowW) (d : DefRec) (kwd : List (Str × Expr)) : Prop :=
  ∀ (w : World) (s₀ s₁ : Shared) (mg mb : Str → Option Value), Ground q loose r.records XP w s₀ mg mb s₁.heap → Yf s₀ = Ya w → ∀ (a : Addr) (o : Obj) (pm cd doc dV kV : Value), s₁.heap.get? a = some o →
    o.data = .func { docDef d.name d.params d.body d.scope pm cd doc with defaults := dV, kwdefaults := kV } → s₁.heap.CodeRec cd d.name → Dflts mg s₁.heap d.params kwd dV kV → mg d.name = some (.ref a) → s₁.gens = #[] →
    ∀ (args : List WData) (vals : List Value) (as : List Addr), Laid r.records w s₀ s₁ args vals as → r.claim.pre args = true → WData.layableAll args = true → ReadsAllW r.records (classAt s₀.heap) s₁.heap vals args as → WellAll w.params s₁.heap vals args → (∀ a ∈ as, (a == sysModules) = false) →
      wpI (model r.prog w) callerA (call (.ref a) vals) (fun v s' => GoodWG r.claim (classAt s₀.heap) (ExcName.means s₀.heap) args s₁ (.ok (.ret v)) s')
        (fun e s' => GoodWG r.claim (classAt s₀.heap) (ExcName.means s₀.heap) args s₁ (.error e) s') s₁
theorem holds_I {r : OpenRow} {q : Program} {loose : List Str} {Xt : Shared → Bool} {XP : (Str → Option Value) → Heap → Prop} {α : Type} {Yf : Shared → α} {Ya : World → α} {d : DefRec} {kwd : List (Str × Expr)} {N : Nat}
    (left : LeftO r.prog q loose Xt Yf Ya N)
    (hX : ∀ s, Xt s = true → XP (s.heap.nsMap mainGlobals) s.heap) (hXk : ∀ mg h h', XP mg h → (∀ b o, h.get? b = some o → h'.get? b = some o) → XP mg h')
    (hdef : defOf q r.name = some (d, kwd)) (hp : r.prog.theDef r.name = some (d.params, d.body, d.scope)) (hk : kwWritten? d.params.kwonlyargs d.params.kw_defaults = some kwd) (hRf : ∀ s, Xt s = true → RecFacts r.records s.heap) (hwr : (!r.writes || r.records.isEmpty) = true)
    (k1 : r.wellSaid = true) (ok : (chainsOk q && opensWell r.prog && (frees r.toRowW && r.within.isEmpty)) = true) (hb : r.prog.bare) (hw : r.toRowW.promised)
    (walk : WalkI q loose XP Yf Ya r.toRowW d kwd) : r.Holds := by
  refine ⟨k1, hw, ?_⟩
  obtain ⟨ok, k5⟩ := Bool.and_eq_true_iff.mp ok
  obtain ⟨hch, o1⟩ := Bool.and_eq_true_iff.mp ok
  obtain ⟨k5, k6⟩ := Bool.and_eq_true_iff.mp k5
  obtain ⟨hsame, hu, ha, hap, hm⟩ := frees_parts k5
  refine ⟨⟨hb, o1, by show r.makers.map _ = []; rw [hm]; rfl⟩, hw.witness, fun w => ⟨(left.behind hX hch w).1, fun s' hs' => ?_⟩⟩
  obtain ⟨s₀, hf, hg0, s, hT, hz, hgens, hg, G00, y⟩ := (left.behind (XP := fun mg h => XP mg h ∧ RecFacts r.records h) (fun s hs => ⟨hX s hs, hRf s hs⟩) hch w).2 s' hs'
  have G0 : Ground q loose [] XP w s (s.heap.nsMap mainGlobals) (s.heap.nsMap builtinsNs) s.heap := ⟨G00.T, G00.B, G00.D, G00.TE, G00.TD, G00.W, G00.X.1, G00.cls, G00.has, G00.apart, G00.once, G00.K⟩
  have RF := G00.X.2
  have hT' := hT
  have pin : ∀ n ∈ (if r.pinned then [r.name] else []), isTheDefsW r.prog s.heap n := fun n hn => by
    obtain rfl : n = r.name := by split at hn <;> simp_all
    exact pinned_of_view hg G0 hdef hp hk
  refine ⟨s₀, hf, hg0, s, hT, pin, RF.1, RF.2.1, ?_⟩
  have hgens : s.gens = #[] := Array.eq_empty_of_size_eq_zero (beq_iff_eq.mp hgens)
  have G : Ground q loose r.records XP w s _ _ s.heap := RF.ground G0
  refine callFrom_I (c := r.claim) hz hgens fun args hpre hlay ord hord => ?_
  obtain ⟨⟨vs, s₁⟩, hlaid⟩ := Option.isSome_iff_exists.mp (layAllW_isSome (P := w.params) (ord := ord) G.has args r.args s (pre_splitW hpre).1)
  have keeps := layAllW_keeps _ _ _ hlaid
  have hal := layAllW_rest _ _ _ hlaid
  obtain ⟨as, hrd, hin, hold⟩ := reads_layAllW hord _ _ _ hlaid hlay s₁.heap (fun _ _ e => e)
  have L : Laid r.records w s s₁ args vs as := ⟨⟨ord, hord, hlaid⟩, hrd, hin, hold, keeps, hal.1.trans hgens, hal.2.2.1⟩
  have G₁ := G.keeps hXk keeps
  obtain ⟨a, o, pm, cd, doc, dV, kV, h1, h2, h3, h4, h5⟩ := G₁.fn hdef
  have h := walk w s s₁ _ _ G₁ y a o pm cd doc dV kV h2 h3 h4 h5 (defOf_name hdef ▸ h1) L.gens args vs as L hpre hlay L.reads L.well (L.low G.low)
  have hi := ident_freeW hu ha hap
  have hwi : r.claim.within = [] := List.isEmpty_iff.mp k6
  refine ⟨vs, s₁, hlaid, ?_⟩
  refine wpI_then (wpAny_nsGet G₁.T.g ?_)
  rw [h1]
  refine wpI_bind (wpI_mono h (fun v s' g => wpI_pure ⟨_, rfl, ?_⟩) fun e s' g => ?_)
  · have z := g.laid (c := r.claim) hsame hwi hi L
    exact ⟨z.1, z.2.1, z.2.2, fun q => ⟨namesKept_of hT' hg _ keeps g.2.1.old, noTable hwr q⟩⟩
  · have z := g.laid (c := r.claim) hsame hwi hi L
    exact ⟨z.1, z.2.1, z.2.2, fun q => ⟨namesKept_of hT' hg _ keeps g.2.1.old, noTable hwr q⟩⟩
end Mine
end

section
set_option maxRecDepth 100000
namespace Mine
open PySem PySem.W PySem.Spec PySem.Calls PyProof.Rows

/-- the built-ins that the laws name -/
def bltL : List (Str × Value) := [("len", .builtin "len"), ("range", .type "range"), ("bytes", .type "bytes"), ("bytearray", .type "bytearray"), ("sorted", .builtin "sorted"), ("sum", .builtin "sum"),
  ("int", .type "int"), ("list", .type "list"), ("tuple", .type "tuple"), ("max", .builtin "max"), ("enumerate", .type "enumerate"), ("isinstance", .builtin "isinstance")]
structure Ev (hB : Heap) (C : Addr) (mg mb : Str → Option Value) (K : Frag) : Prop where
  Gl : Glb hB mg mb
  X : Cls K C
  KX : K.In hB
  blt : ∀ (j : Nat) (x : Str) (bv : Value), bltL[j]? = some (x, bv) → mg x = none ∧ mb x = some bv
/-- a def at the top -/
structure Fn (hB : Heap) (mg : Str → Option Value) (x : Str) (a : Addr) : Prop where
  bound : mg x = some (.ref a)
  ho : ∃ o fd, hB.get? a = some o ∧ o.data = .func fd
/-- a method of the class -/
structure Mt (K : Frag) (C : Addr) (hB : Heap) (x : Str) (a : Addr) : Prop where
  find : findIn K (.ref C) x = some (some (.ref a))
  type : typeIn K (.ref a) = some (.type "function")
  ho : ∃ o fd, hB.get? a = some o ∧ o.data = .func fd
section
variable {prog : Program} {w : World} {hB : Heap} {C : Addr} {n : Nat} {nm : List (Str × NameKind)} {mg mb : Str → Option Value} {K : Frag}
theorem Ev.bi (V : Ev hB C mg mb K) (j i : Nat) {x : Str} {bv : Value} (e : bltL[j]? = some (x, bv)) (h : nm[i]? = some (x, .globalImplicit)) (hd : (x == ("__debug__" : Str)) = false) : Bi nm mg mb x bv :=
  ⟨⟨i, h⟩, (V.blt j x bv e).1, (V.blt j x bv e).2, hd⟩
theorem callF {x : Str} {a : Addr} {np p : Pos} {es : List Expr} {cs : List CE} {F : FS} (V : Ev hB C mg mb K) (i : Nat) (B : Fn hB mg x a) (hi : nm[i]? = some (x, .globalImplicit)) (hd : (x == ("__debug__" : Str)) = false) (hF : FK prog w hB C n (.ref a) F) (h : SEs prog w hB C n nm es cs) (hne : es ≠ [])
    (ht : ∀ env, backTo p (starEach es env) = es.map fun e => (false, eval e env)) : SE prog w hB C n nm (.Call (.Name x np) es [] p) (cCall F cs) := by
  obtain ⟨o, fd, h1, h2⟩ := B.ho
  exact SE_call V.Gl ⟨⟨i, hi⟩, B.bound, hd⟩ h1 h2 hF h hne ht
theorem callI {x : Str} {a : Addr} {np p : Pos} {es : List Expr} {cs : List CE} {F : FS} (V : Ev hB C mg mb K) (i : Nat) (B : Fn hB mg x a) (hi : nm[i]? = some (x, .globalImplicit)) (hd : (x == ("__debug__" : Str)) = false) (hF : FKI prog w hB C n (.ref a) F) (h : SEs prog w hB C n nm es cs) (hne : es ≠ [])
    (ht : ∀ env, backTo p (starEach es env) = es.map fun e => (false, eval e env)) : SEI prog w hB C n nm (.Call (.Name x np) es [] p) (cCall F cs) := by
  obtain ⟨o, fd, h1, h2⟩ := B.ho
  exact SEI_call V.Gl ⟨⟨i, hi⟩, B.bound, hd⟩ h1 h2 hF h hne ht
theorem methF {x : Expr} {name : Str} {a : Addr} {ap p : Pos} {cx : CE} {es : List Expr} {cs : List CE} {F : FS} (V : Ev hB C mg mb K) (M : Mt K C hB name a) (hna : name ∉ attrN) (hF : FK prog w hB C n (.ref a) F) (hx : SE prog w hB C n nm x cx) (h : SEs prog w hB C n nm es cs) (hlen : es.length < 20)
    (hb : ∀ env, attributeBase x name env (eval x env) = eval x env) (hl : (ap.endLine == p.line) = true) (ht : ∀ env, backTo p (starEach es env) = es.map fun e => (false, eval e env)) : SE prog w hB C n nm (.Call (.Attribute x name ap) es [] p) (cIm F cx cs) := by
  obtain ⟨o, fd, h1, h2⟩ := M.ho
  exact SE_im V.X V.KX M.find M.type hna h1 h2 hF hx h hlen hb hl ht
theorem newF {x : Str} {np p : Pos} {e₀ : Expr} {c₀ : CE} {F : FS} (V : Ev hB C mg mb K) (i : Nat) (hc : mg x = some (.ref C)) (hkp : keepIn K (.ref C) = true) (hi : nm[i]? = some (x, .globalImplicit)) (hd : (x == ("__debug__" : Str)) = false) (hF : FK prog w hB C n (.ref C) F) (h : SE prog w hB C n nm e₀ c₀)
    (ht : ∀ env, starEach [e₀] env = [(false, eval e₀ env)]) : SE prog w hB C n nm (.Call (.Name x np) [e₀] [] p) (cNew F c₀) :=
  SE_new V.KX V.Gl ⟨⟨i, hi⟩, hc, hd⟩ hkp hF h ht
end
end Mine
end

section
set_option maxRecDepth 100000
namespace Mine
open PySem PySem.W PySem.Spec PySem.Calls PyProof.Rows

def bodyAt (p : Program) (i : Nat) : List Stmt := match p.main.body[i]? with
  | some (.FunctionDef _ _ b _ _ _ _ _ _ _) => b
  | _ => []
def scopeAt (p : Program) (i : Nat) : Scope := match p.main.body[i]? with
  | some (.FunctionDef _ _ _ _ _ _ s _ _ _) => s
  | _ => { kind := .function, names := [], isGenerator := false, isCoroutine := false }
def methBody (p : Program) (i j : Nat) : List Stmt := match p.main.body[i]? with
  | some (.ClassDef _ _ _ l _ _ _ _ _ _ _) => match l[j]? with
    | some (.FunctionDef _ _ b _ _ _ _ _ _ _) => b
    | _ => []
  | _ => []
def methScope (p : Program) (i j : Nat) : Scope := match p.main.body[i]? with
  | some (.ClassDef _ _ _ l _ _ _ _ _ _ _) => match l[j]? with
    | some (.FunctionDef _ _ _ _ _ _ s _ _ _) => s
    | _ => { kind := .function, names := [], isGenerator := false, isCoroutine := false }
  | _ => { kind := .function, names := [], isGenerator := false, isCoroutine := false }
def okC (nm : List (Str × NameKind)) (p : (Str × NameKind) × Option Nat) : Bool := p.2.elim (p.1.2 != .free) fun j => p.1.2 == .free && (nm[j]? == some (p.1.1, .cell) || nm[j]? == some (p.1.1, .free))
def cnB (nm : List (Str × NameKind)) (l : List (Str × NameKind)) (cap : List (Option Nat)) : Bool := l.length == cap.length && (l.zip cap).all (okC nm)
theorem cnB_at {nm l : List (Str × NameKind)} {cap : List (Option Nat)} (h : cnB nm l cap = true) (i : Nat) (x : Str) (kd : NameKind) (e : l[i]? = some (x, kd)) :
    (kd = .free → ∃ j, cap[i]? = some (some j) ∧ (nm[j]? = some (x, .cell) ∨ nm[j]? = some (x, .free))) ∧ (kd ≠ .free → cap[i]? = some none) := by
  obtain ⟨h1, h2⟩ := Bool.and_eq_true_iff.mp h
  have hi : i < cap.length := eq_of_beq h1 ▸ (List.getElem?_eq_some_iff.mp e).1
  have ec : cap[i]? = some cap[i] := List.getElem?_eq_getElem hi
  have hz : ((x, kd), cap[i]) ∈ l.zip cap := List.mem_of_getElem? (i := i) (List.getElem?_zip_eq_some.mpr ⟨e, ec⟩)
  have g2 := List.all_eq_true.mp h2 _ hz
  rw [ec]
  refine ⟨fun hk => ?_, fun hk => ?_⟩
  · cases q : cap[i] with
    | none => rw [q] at g2; exact absurd hk (bne_iff_ne.mp g2)
    | some j =>
      rw [q] at g2
      exact ⟨j, rfl, (Bool.or_eq_true_iff.mp (Bool.and_eq_true_iff.mp g2).2).imp eq_of_beq eq_of_beq⟩
  · cases q : cap[i] with
    | none => rfl
    | some j =>
      rw [q] at g2
      exact absurd (eq_of_beq (Bool.and_eq_true_iff.mp g2).1) hk
theorem CNm.of {nm nm' : List (Str × NameKind)} {cap : List (Option Nat)} (h : (decide (nm'.map (·.1)).Nodup && cnB nm nm' cap) = true) : CNm nm nm' cap := by
  obtain ⟨h1, h2⟩ := Bool.and_eq_true_iff.mp h
  exact ⟨of_decide_eq_true h1, fun i x e => (cnB_at h2 i x _ e).1 rfl, fun i x kd e hk => (cnB_at h2 i x _ e).2 hk⟩
theorem swaps_two {nm : List (Str × NameKind)} {env : Env} (k : Knows nm env) {i j : Nat} {x y : Str} {px py : Pos} {q q' : Nat} {tp tp' : Pos} {u v : Expr} (hx : nm[i]? = some (x, .local)) (hy : nm[j]? = some (y, .local)) (hl : (py.line == px.line) = true) (hne : x ≠ y)
    (hs : ([u, v].any fun | .Starred .. => true | _ => false) = false) (hf : [u, v].all (foldedForSure 8) = false) (hc : [u, v].all (constantsAlone 8) = false) :
    swappedStores [.Tuple [.Name x px, .Name y py] q tp] (.Tuple [u, v] q' tp') env = pure (some [x, y]) := by
  have h1 : env.kindOf x = some .local := (k.2 i x _ hx).resolve_right fun z => nomatch z.1
  have h2 : env.kindOf y = some .local := (k.2 j y _ hy).resolve_right fun z => nomatch z.1
  have hb : env.blockKind = .function := by unfold Env.blockKind; rw [k.1]; rfl
  have hd : ([x, y].eraseDups.length != [x, y].length) = false := by
    have : ¬ (y == x) = true := fun e => hne (eq_of_beq e).symm
    simp [List.eraseDups_cons, this]
  have hp : (Expr.Name x px).pos.line = px.line := rfl
  unfold swappedStores
  simp only [hb, h1, h2, hp, hl, List.length_cons, List.length_nil, List.filterMap_cons, List.filterMap_nil, List.head?_cons, Option.map_some, Option.getD_some, beq_self_eq_true, Bool.and_self, if_true]
  refine Eq.trans (if_neg (by decide)) ?_
  refine Eq.trans (if_neg (fun q => Bool.false_ne_true (hs.symm.trans q))) ?_
  refine Eq.trans (if_neg (fun q => ?_)) ?_
  · have q : ((0 + 1 + 1 != 0 + 1 + 1) || ([x, y].eraseDups.length != [x, y].length)) = true := q
    rw [hd] at q
    cases q
  · rw [hf, hc]
    rfl
section
variable {prog : Program} {w : World} {hB : Heap} {C : Addr} {n : Nat} {nm : List (Str × NameKind)}
theorem CompOK.one {elt target iter : Expr} {ifs : List Expr} {scope : Scope} {pos : Pos} {t : MT} {ci : CI} {cb : Nat → CS} {cap : List (Option Nat)} (N : CNm nm scope.names cap) (kind : scope.kind = .function) (ht : Tgt scope.names t target) (hi : SI prog w hB C n nm target iter ci)
    (hb : ∀ acc, TE prog w hB C n scope.names acc ifs (emit0 elt) (cb acc)) (hx : ∀ acc, Nx (cb acc)) (hs : ∀ env x, foldedSetIterable iter env x = pure x) : CompOK prog w hB C n nm elt target iter ifs [] scope pos (emit0 elt) t ci cb cap :=
  ⟨N, kind, ht, hi, hb, hx, hs, turnIs_one _ _ _ _ _ _⟩
end
end Mine
end

section
set_option maxRecDepth 100000
namespace Mine
open PySem PySem.W PySem.Spec PySem.Calls PyProof.Rows

def nmsB (nm : List (Str × NameKind)) (ps : List Nat) (pn : List Str) : Bool :=
  decide (nm.map (·.1)).Nodup && nm.all (fun p => p.2 != .free) && ps.length == pn.length && (ps.zip pn).all fun p => nm[p.1]? == some (p.2, .local) || nm[p.1]? == some (p.2, .cell)
theorem Nms.of {nm : List (Str × NameKind)} {ps : List Nat} {pn : List Str} (h : nmsB nm ps pn = true) : Nms nm ps pn := by
  unfold nmsB at h
  simp only [Bool.and_eq_true] at h
  obtain ⟨⟨⟨h1, h2⟩, h3⟩, h4⟩ := h
  refine ⟨of_decide_eq_true h1, fun p hp e => ?_, by simpa using h3, fun j p x e1 e2 => ?_⟩
  · have := List.all_eq_true.mp h2 p hp
    rw [e] at this
    cases this
  · have hm : (p, x) ∈ ps.zip pn := by
      refine List.mem_of_getElem? (i := j) ?_
      rw [List.getElem?_zip_eq_some]
      exact ⟨e1, e2⟩
    have := List.all_eq_true.mp h4 _ hm
    rcases Bool.or_eq_true_iff.mp this with h | h
    · exact .inl (by simpa using h)
    · exact .inr (by simpa using h)
/-- a def of the text, in the heap -/
def DF (hB : Heap) (a : Addr) (body : List Stmt) (sc : Scope) (pn : List Str) : Prop := ∃ fd, Dfn hB a fd body pn ∧ fd.scope = sc
theorem DF.of {K : Frag} {hB : Heap} {a : Addr} {o : Obj} {fd : FuncData} {body : List Stmt} {sc : Scope} {pn : List Str} (X : K.In hB) (hl : K.lookup a = some o) (hd : o.data = .func fd) (hb : fd.body = .stmts body) (hs : fd.scope = sc) (hc : codeIn K fd.code fd.qualname = true)
    (clo : fd.closure = []) (glob : fd.globals = mainGlobals) (blt : fd.builtins = builtinsNs) (co : sc.isCoroutine = false) (gen : sc.isGenerator = false) (kind : sc.kind = .function)
    (bind : ∀ vs : List Value, vs.length = pn.length → bindArgs fd ⟨vs, []⟩ = pure (pn.zip vs)) : DF hB a body sc pn := by
  subst hs
  exact ⟨fd, ⟨⟨o, X a o hl, hd⟩, codeRec_of X hc, hb, clo, glob, blt, co, gen, kind, bind⟩, rfl⟩
theorem bind1 {fd : FuncData} {x : Str} (h : ∀ a, bindArgs fd ⟨[a], []⟩ = pure [(x, a)]) (vs : List Value) (hl : vs.length = [x].length) : bindArgs fd ⟨vs, []⟩ = pure ([x].zip vs) := by
  obtain ⟨a, rfl⟩ := List.length_eq_one_iff.mp hl
  exact h a
theorem bind2 {fd : FuncData} {x y : Str} (h : ∀ a b, bindArgs fd ⟨[a, b], []⟩ = pure [(x, a), (y, b)]) (vs : List Value) (hl : vs.length = [x, y].length) : bindArgs fd ⟨vs, []⟩ = pure ([x, y].zip vs) := by
  obtain ⟨a, b, rfl⟩ := len_two hl
  exact h a b
theorem DF.fn {hB : Heap} {a : Addr} {body : List Stmt} {sc : Scope} {pn : List Str} {mg : Str → Option Value} {x : Str} (D : DF hB a body sc pn) (h : mg x = some (.ref a)) : Fn hB mg x a := by
  obtain ⟨fd, D, _⟩ := D
  obtain ⟨o, h1, h2⟩ := D.ho
  exact ⟨h, o, fd, h1, h2⟩
theorem DF.mt {K : Frag} {C : Addr} {hB : Heap} {a : Addr} {body : List Stmt} {sc : Scope} {pn : List Str} {x : Str} (D : DF hB a body sc pn) (h : findIn K (.ref C) x = some (some (.ref a))) (h' : typeIn K (.ref a) = some (.type "function")) : Mt K C hB x a := by
  obtain ⟨fd, D, _⟩ := D
  obtain ⟨o, h1, h2⟩ := D.ho
  exact ⟨h, h', o, fd, h1, h2⟩
section
variable {prog : Program} {w : World} {hB : Heap} {C : Addr} {n : Nat} {mg mb : Str → Option Value} {K : Frag}
theorem DF.fk {a : Addr} {body : List Stmt} {sc : Scope} {pn : List Str} {ps : List Nat} {c : CS} {nv : Nat} (V : Ev hB C mg mb K) (D : DF hB a body sc pn) (hn : nmsB sc.names ps pn = true) (hv : sc.names.length = nv) (hb : SB prog w hB C n sc.names body c) :
    FK prog w hB C (n + 1) (.ref a) (fDef nv ps c) := by
  obtain ⟨fd, D, rfl⟩ := D
  exact FK_def D (Nms.of hn) V.Gl.nolimit hv hb
theorem DF.fki {a : Addr} {body : List Stmt} {sc : Scope} {pn : List Str} {ps : List Nat} {c : CS} {nv : Nat} (V : Ev hB C mg mb K) (D : DF hB a body sc pn) (hn : nmsB sc.names ps pn = true) (hv : sc.names.length = nv) (hb : SBI prog w hB C n sc.names body c) :
    FKI prog w hB C (n + 1) (.ref a) (fDef nv ps c) := by
  obtain ⟨fd, D, rfl⟩ := D
  exact FKI_def D (Nms.of hn) V.Gl.nolimit hv hb
theorem DF.fkn {a : Addr} {body : List Stmt} {sc : Scope} {pn : List Str} {ps : List Nat} {c : CS} {nv : Nat} (V : Ev hB C mg mb K) (D : DF hB a body sc pn) (hi : findIn K (.ref C) "__init__" = some (some (.ref a))) (hf : typeIn K (.ref a) = some (.type "function")) (hn : nmsB sc.names ps pn = true) (hv : sc.names.length = nv) (hb : SB prog w hB C n sc.names body c) :
    FK prog w hB C (n + 2) (.ref C) (fNew nv ps c) := by
  obtain ⟨fd, D, rfl⟩ := D
  exact FK_new V.X V.KX hi hf D (Nms.of hn) V.Gl.nolimit hv hb
theorem mg_none {K : Frag} {h : Heap} {mg : Str → Option Value} {n : Str} (X : K.In h) (G : h.Ns mainGlobals mg) (e : nsIn K mainGlobals n = some none) : mg n = none := by
  obtain ⟨o, es, ep, ho, hd, hk, hf⟩ := G
  unfold nsIn at e
  split at e
  · rename_i c d es' n' sl q
    have := X _ _ q
    rw [ho] at this
    cases this
    cases hd
    rw [← hf]
    split at e
    · cases e
    · rename_i hfi
      unfold nsFind findBy
      rw [← Array.find?_toList, hfi]
      rfl
  · cases e
end
end Mine
end

section
set_option maxRecDepth 100000
namespace Mine
open PySem PySem.W PySem.Spec PySem.Calls PyProof.Rows

theorem vrs_ints {φ : List Addr} : ∀ {vs : List Value} {ns : List Int}, IntsAre vs ns → VRs φ vs (ns.map .int)
  | _, _, .nil => trivial
  | _, _, .cons n t r => ⟨⟨t, rfl⟩, vrs_ints r⟩
/-- the law called: its answer is True -/
theorem law_end {prog : Program} {w : World} {C fa a : Addr} {n : Nat} {F : FS} {c : ClaimW} {cl : Str → Option Addr} {mean : ExcName → Option Value} {args : List WData} {s₁ : Shared} {vs : List Value} {ns : List Int}
    (hF : FKI prog w s₁.heap C n (.ref fa) F) (hn : n ≤ 20) (ho : s₁.heap.get? a = some { cls := .type "list", data := .seq vs.toArray }) (hI : IntsAre vs ns) (hlen : ns.length ≤ 63) (hg : s₁.gens = #[])
    (hr : ∀ cls, c.raises args cls = false) (hp : c.post args (.bool true) args = true) (e : ∃ σ', F [.list (ns.map .int)] [.ref 0] = some (.bool true, σ')) :
    wpI (model prog w) callerA (call (.ref fa) [.ref a]) (fun v s' => GoodWG c cl mean args s₁ (.ok (.ret v)) s') (fun e s' => GoodWG c cl mean args s₁ (.error e) s') s₁ := by
  obtain ⟨σ', e⟩ := e
  refine wpI_call (hF callerA [a] [.list (ns.map .int)] s₁ [.ref a] [.ref 0] (.bool true) σ' ⟨rfl, ?_, ?_⟩ ⟨rfl, ?_, by simp, fun _ _ h => h⟩ ⟨⟨a, rfl, rfl⟩, trivial⟩ e _ ?_)
  · show 1 + claimMargin + n ≤ 900
    have : 1 + claimMargin = 301 := by decide +kernel
    omega
  · show 4 + 10 * n ≤ 9000
    omega
  · intro i mo h
    cases i with
    | zero =>
      cases h
      refine ⟨a, _, rfl, ho, vs, 0, rfl, vrs_ints hI, ?_⟩
      have := IntsAre.length hI
      omega
    | succ i => cases h
  · intro v φ' h' tk f r
    cases r
    exact ⟨.inl ⟨_, _, [], rfl, hr, ReadsW.bool true, hp, fun _ => ⟨List.nodup_nil, fun _ hm => (nomatch hm)⟩⟩, OldK.of_keep f.ext, rfl, .of_eq hg⟩
end Mine
end

section
namespace Mine
open PySem
noncomputable section
/-! What a def leaves behind and nobody names is left out of the store. -/
def plainV (v : MV) : Bool := MV.rec (motive := fun _ => Bool) true (fun _ => true) (fun _ => true) (fun _ => true) (fun _ => true) (fun _ => false) v
def plainL (l : List MV) : Bool := List.rec (motive := fun _ => Bool) true (fun a _ ih => cnd (plainV a) ih false) l
def gcL (σ : Hp) (i : Nat) (x : RE) (o : Option MO) : RE := match o with
  | some (.list xs) => cnd (Nat.ble (len σ) i) (cnd (plainL xs) (newL σ xs) x) x
  | _ => x
def gcV (σ : Hp) (v : MV) (σ' : Hp) : RE := match v with
  | .ref i => gcL σ i (some (.ref i, σ')) (getO σ' i)
  | v => some (v, σ)
def gcF (F : FS) : FS := fun σ ms => bnd (F σ ms) fun v σ' => gcV σ v σ'
end
end Mine
end

section
set_option maxRecDepth 100000
namespace Mine
open PySem PySem.W PySem.Spec PySem.Calls PyProof.Rows
theorem plainL_vrs {φ φ' : List Addr} : ∀ {xs : List MV} {vs : List Value}, plainL xs = true → VRs φ vs xs → VRs φ' vs xs
  | [], [], _, _ => trivial
  | x :: xs, v :: vs, h, r => by
    have h : cnd (plainV x) (plainL xs) false = true := h
    rw [cnd_eq] at h
    split at h
    · rename_i hx
      refine ⟨?_, plainL_vrs h r.2⟩
      cases x with
      | ref i => cases hx
      | _ => exact r.1
    · cases h
  | [], _ :: _, _, r => r.elim
  | _ :: _, [], _, r => r.elim
/-- the answer and the store after the cleaning -/
theorem gc_ok {hB : Heap} {C : Addr} {φ φ' : List Addr} {σ σ' σ'' : Hp} {h h' : Heap} {v : Value} {mv mv' : MV} (S : Sto hB C φ σ h) (f : Fin1 hB C φ h φ' σ' h') (r : VR φ' v mv) (e : gcV σ mv σ' = some (mv', σ'')) :
    ∃ φ'', Fin1 hB C φ h φ'' σ'' h' ∧ VR φ'' v mv' := by
  have plain : VR φ v mv → gcV σ mv σ' = some (mv, σ) → ∃ φ'', Fin1 hB C φ h φ'' σ'' h' ∧ VR φ'' v mv' := fun r' e' => by
    rw [e'] at e
    cases e
    refine ⟨φ, ⟨⟨S.len, fun i mo q => ?_, S.nd, f.sto.base⟩, f.ext, [], by simp, fun _ z => nomatch z⟩, r'⟩
    obtain ⟨a, o, e1, e2, e3⟩ := S.obj i mo q
    exact ⟨a, o, e1, f.ext _ _ e2, e3⟩
  cases mv with
  | ref i =>
    have same : some (MV.ref i, σ') = some (mv', σ'') → ∃ φ'', Fin1 hB C φ h φ'' σ'' h' ∧ VR φ'' v mv' := fun q => by
      cases q
      exact ⟨φ', f, r⟩
    have e : gcL σ i (some (.ref i, σ')) (getO σ' i) = some (mv', σ'') := e
    unfold gcL at e
    split at e
    · rename_i xs ex
      rw [cnd_eq] at e
      split at e
      · rename_i hi
        rw [cnd_eq] at e
        split at e
        · rename_i hp
          have hi := Nat.le_of_ble_eq_true hi
          rw [len_eq] at hi
          unfold newL new at e
          rw [frVs_eq, frN_eq, frS_eq, app_eq, len_eq] at e
          cases e
          unfold getO at ex
          rw [nth_eq] at ex
          obtain ⟨a, o, e1, e2, e3⟩ := f.sto.obj i _ ex
          obtain ⟨t, rfl, ht⟩ := f.pre
          have hi' : φ.length ≤ i := by rw [S.len]; exact hi
          have hat : a ∈ t := by
            rw [List.getElem?_append_right hi'] at e1
            exact List.mem_of_getElem? e1
          obtain ⟨a', e4, rfl⟩ := r
          rw [e1] at e4
          cases e4
          have hnd := f.sto.nd
          refine ⟨φ ++ [a], ⟨⟨by simp [S.len], fun j mo q => ?_, ?_, f.sto.base⟩, f.ext, [a], rfl, fun b hb => ?_⟩, a, ?_, rfl⟩
          · by_cases hj : j < σ.length
            · rw [List.getElem?_append_left hj] at q
              obtain ⟨b, p, e5, e6, e7⟩ := S.obj j mo q
              exact ⟨b, p, by rw [List.getElem?_append_left (by rw [S.len]; exact hj)]; exact e5, f.ext _ _ e6, e7.mono⟩
            · have hj : j = σ.length := by
                have := (List.getElem?_eq_some_iff.mp q).1
                simp at this
                omega
              subst hj
              simp at q
              subst q
              obtain ⟨vs, m, z1, z2, z3⟩ := e3
              exact ⟨a, o, by rw [← S.len]; simp, e2, vs, m, z1, plainL_vrs hp z2, z3⟩
          · refine List.nodup_append.mpr ⟨S.nd, by simp, fun x hx y hy e => ?_⟩
            simp at hy
            subst hy
            subst e
            exact (List.nodup_append.mp hnd).2.2 x hx x hat rfl
          · simp at hb
            subst hb
            exact ht b hat
          · rw [← S.len]; simp
        · exact same e
      · exact same e
    · exact same e
  | none => exact plain r rfl
  | bool b => exact plain r rfl
  | int i => exact plain r rfl
  | str s => exact plain r rfl
  | bytes b => exact plain r rfl
section
variable {prog : Program} {w : World} {hB : Heap} {C : Addr} {n : Nat} {mg mb : Str → Option Value} {K : Frag}
theorem FKI.gc {f : Value} {F : FS} (H : FKI prog w hB C n f F) : FKI prog w hB C n f (gcF F) := by
  intro A φ σ s vs ms mv σ' hA S r e R hR
  obtain ⟨v, σ₁, e1, e2⟩ := bnd_some.mp e
  refine H A φ σ s vs ms v σ₁ hA S r e1 R fun u φ' h' tk fin q => ?_
  obtain ⟨φ'', fin', q'⟩ := gc_ok S fin q e2
  exact hR u φ'' h' tk fin' q'
end
end Mine
end

section
set_option maxRecDepth 100000
namespace Mine
open PySem PySem.W PySem.Spec PySem.Calls PyProof.Rows
section
variable {prog : Program} {w : World} {hB : Heap} {C : Addr} {n : Nat} {nm : List (Str × NameKind)} {mg mb : Str → Option Value} {K : Frag}
end
end Mine
end

section
set_option maxRecDepth 100000
namespace Mine
open PySem PySem.W PySem.Spec PySem.Calls PyProof.Rows
theorem seq_iadd : isSeqSlot (some (.builtin "list.__iadd__")) = true := by decide +kernel
theorem lookup_iadd : typeLookup (.type "list") (dunderI "add") = pure (some (.builtin "list.__iadd__")) := F.slot_list_iadd.lookup
theorem swaps_cell {nm : List (Str × NameKind)} {env : Env} (k : Knows nm env) {i j : Nat} {x y : Str} {px py : Pos} {q q' : Nat} {tp tp' : Pos} {u v : Expr} (hx : nm[i]? = some (x, .local)) (hy : nm[j]? = some (y, .cell)) (hs : ([u, v].any fun | .Starred .. => true | _ => false) = false) :
    swappedStores [.Tuple [.Name x px, .Name y py] q tp] (.Tuple [u, v] q' tp') env = pure none := by
  have h1 : env.kindOf x = some .local := (k.2 i x _ hx).resolve_right fun z => nomatch z.1
  have h2 : env.kindOf y = some .cell := (k.2 j y _ hy).resolve_right fun z => nomatch z.1
  have h3 : ((some NameKind.cell : Option NameKind) == some .local) = false := rfl
  have hb : env.blockKind = .function := by unfold Env.blockKind; rw [k.1]; rfl
  have hp : (Expr.Name x px).pos.line = px.line := rfl
  unfold swappedStores
  simp only [hb, h1, h2, h3, hp, List.length_cons, List.length_nil, List.filterMap_cons, List.filterMap_nil, List.head?_cons, Option.map_some, Option.getD_some, beq_self_eq_true, Bool.and_self, Bool.false_and, if_true]
  refine Eq.trans (if_neg (by decide)) ?_
  refine Eq.trans (if_neg (fun q => Bool.false_ne_true (hs.symm.trans q))) ?_
  rfl
section
variable {prog : Program} {w : World} {hB : Heap} {C : Addr} {n : Nat} {nm : List (Str × NameKind)} {mg mb : Str → Option Value} {K : Frag}
theorem inplace_list {M : Model} {A : Around} {E : Value → Shared → Prop} {s : Shared} {a b : Value} {Q : Value → Shared → Prop} (ha : s.TypeIs a "list") (hb : s.TypeIs b "list") (hc : wpAny M A (call (.builtin "list.__iadd__") [a, b]) Q E s) : wpAny M A (inplaceOp .Add a b) Q E s := by
  unfold inplaceOp
  refine wpAny_holding ?_
  have hfi : fillsInplaceSlot (.type "list") "add" (Operator.Add == .Add) = pure false := by
    unfold fillsInplaceSlot
    show (typeLookup (.type "list") (dunderI "add") >>= fun fi => pure (fi.isSome && !isSeqSlot fi)) = pure false
    rw [lookup_iadd]
    show (pure (true && !isSeqSlot (some (.builtin "list.__iadd__"))) : Sem Bool) = pure false
    rw [seq_iadd]; rfl
  have hsi : seqSlot? (.type "list") (dunderI "add") = pure (some (.builtin "list.__iadd__")) := by
    unfold seqSlot?
    rw [lookup_iadd]
    show (if (!isSeqSlot (some (.builtin "list.__iadd__"))) = true then pure none else _) = _
    rw [seq_iadd]; rfl
  refine wpAny_bind (wpAny_typeOf ha (wpAny_bind (wpAny_of_eq hfi ?_)))
  show wpAny M A (if false = true then _ else _) Q E s
  rw [if_neg Bool.false_ne_true]
  refine wpAny_bind (wpAny_binaryOp1_none (nm := "add") ha hb (by rfl) ?_)
  refine wpAny_bind (wpAny_of_eq hsi ?_)
  exact wpAny_bind (wpAny_rule hc)
theorem setAt_same : ∀ {ρ : Lo} {i : Nat} {v : MV}, getV ρ i = some v → setAt ρ i (some v) = ρ := by
  intro ρ
  induction ρ with
  | nil => intro i v h; rfl
  | cons a r ih =>
    intro i v h
    cases i with
    | zero =>
      have h : a = some v := h
      rw [h]
      rfl
    | succ i =>
      have h : getV r i = some v := h
      exact congrArg (a :: ·) (ih h)
theorem iadd_ok {A : Around} {env : Env} {own : List Addr} {k : Kx} {φ : List Addr} {ρ : Lo} {σ : Hp} {s : Shared} {a b : MV} {va vb : Value} {σ' : Hp} {Q : Value → Shared → Prop} {E : Value → Shared → Prop} (S : Stt hB C env nm own k φ ρ σ s.heap)
    (ra : VR φ va a) (rb : VR φ vb b) (e : iaddV k σ a b = some σ') (G : ∀ h' tk, Stp (Ft k own φ) φ s.heap φ h' → Stt hB C env nm own k φ ρ σ' h' → Q va { s with heap := h', toks := tk }) : wpAny (model prog w) A (inplaceOp .Add va vb) Q E s := by
  unfold iaddV at e
  split at e <;> try (cases e; done)
  rename_i j q
  obtain ⟨hm, e⟩ := cnd_some.mp e
  split at e <;> try (cases e; done)
  rename_i x y ex ey
  rw [cnd_eq] at e
  split at e
  · cases e
  rw [frS_eq, app_eq] at e
  obtain ⟨hz, e⟩ := chk_some.mp e
  rw [setK_eq] at e
  cases e
  obtain ⟨ad, vs, m, e1, rfl, e2, rs, hl⟩ := S.list ex ra
  obtain ⟨bd, us, m', e1', rfl, e2', rs', hl'⟩ := S.list ey rb
  rw [List.length_append, ← rs.length, ← rs'.length] at hz
  have ho : (s.heap.update ad (Obj.mapSeq fun x => x ++ us.toArray)).get? ad = some { cls := .type "list", data := .seq (vs ++ us).toArray (if (vs.toArray ++ us.toArray).size == vs.toArray.size then m else m + 1) } := by
    rw [← List.append_toArray]
    exact Heap.get?_update_self _ e2 rfl
  refine inplace_list ⟨_, e2, rfl⟩ ⟨_, e2', rfl⟩ (call_meets F.slot_list_iadd ⟨_, e2, rfl⟩ F.entry_list_iadd (F.args_list_iadd_2 _ _)
    (AutoSeq1.list___iadd___list_list_0 ad vs.toArray m bd us.toArray m' ?_ (by rw [sizeLine_eq]; simp; omega) (by rw [sizeLine_eq]; simp; omega)) ⟨e2, e2', ?_⟩)
  · intro z
    have z := (Bool.and_eq_true_iff.mp z).2
    unfold Builtin.List.listTooLong at z
    rw [sizeLine_eq] at z
    have z := of_decide_eq_true z
    simp at z
    omega
  · exact G _ s.toks (Stp.obj hm e1 (Heap.SameBut.update ..) ho) (S.setObj e1 (mut_n0 hm) (Heap.SameBut.update ..) ho (fun o' e v => by rw [e2] at e; cases e; intro q; cases q) ⟨_, _, rfl, rs.append rs', by simp; omega⟩)
theorem SS_augL {i : Nat} {x : Str} {q p : Pos} {v : Expr} {c : CE} (hx : Nmd nm i x) (h : SE prog w hB C n nm v c) : SS prog w hB C n nm (.AugAssign (.Name x q) .Add v p) (sAugL i c) := by
  intro A env own k φ ρ σ s mf ρ' σ' hA S e Q E G
  obtain ⟨a, e0, e⟩ := bd1_some.mp e
  obtain ⟨b, σ₁, e1, e⟩ := bnd_some.mp e
  obtain ⟨σ₂, e2, e⟩ := bd1_some.mp e
  cases e
  refine wpAny_AugAssign_Name (load_name S hx e0 fun va ra => ?_)
  refine h A env own k φ ρ σ s b σ₁ hA S e1 _ E fun vb φ₁ h₁ tk₁ x₁ S₁ r₁ => ?_
  refine iadd_ok (s := { s with heap := h₁, toks := tk₁ }) S₁ (ra.later x₁) r₁ e2 fun h₂ tk₂ x₂ S₂ => ?_
  refine store_name (s := { s with heap := h₂, toks := tk₂ }) S₂ hx (ra.later x₁) fun h' tk x₃ S₃ => ?_
  rw [setAt_same e0] at S₃
  exact ((G.from x₁).from x₂) .next φ₁ h' tk x₃ S₃ rfl
end
end Mine
end

section
namespace Mine
open PySem
noncomputable section
/-- list(bytes) -/
def listBV (σ : Hp) (a : MV) : RE := match a with
  | .bytes x => frVs (x.map fun c => .int (.ofNat c)) fun z => chk z (new σ (.list z))
  | _ => none
def anyI (x : Int) : List Int → Bool
  | [] => false
  | y :: l => cnd (W.Z.eqB y x) true (anyI x l)
/-- in a tuple of ints -/
def inTC (σ : Hp) (a b : MV) : Option Bool := match a, b with
  | .int x, .ref j => match getO σ j with
    | some (.tuple y) => bd1 (intsOf y) fun l => some (anyI x l)
    | _ => none
  | _, _ => none
def refT : MV → Option Nat
  | .ref i => some i
  | _ => none
def tupO : MO → Option (List MV)
  | .tuple u => some u
  | _ => none
def tupT (σ : Hp) (i : Nat) : Option (List MV) := bd1 (getO σ i) tupO
def intT : MV → Bool
  | .int _ => true
  | _ => false
def headT : List MV → Option Nat
  | [a, b] => cnd (intT b) (refT a) none
  | _ => none
/-- two pairs of a tuple of ints and an int -/
def eqTC (σ : Hp) (a b : MV) : Option Bool := bd1 (refT a) fun i => bd1 (refT b) fun j => bd1 (tupT σ i) fun x => bd1 (tupT σ j) fun y => bd1 (headT x) fun c => bd1 (headT y) fun d => bd1 (tupT σ c) fun u => bd1 (tupT σ d) fun v =>
  bd1 (intsOf u) fun l => bd1 (intsOf v) fun l' => cnd (Nat.beq (len l) (len l')) (eqC σ a b) (some false)
end
end Mine
end

section
set_option maxRecDepth 100000
namespace Mine
open PySem PySem.W PySem.Spec PySem.Calls PyProof.Rows
section
variable {prog : Program} {w : World} {A : Around} {E : Value → Shared → Prop} {s : Shared}
theorem call_list_bytes {Q : Value → Shared → Prop} (hh : A.handled = none) (b : Array UInt8) (t : Tok) (hn : b.size ≤ 1000000)
    (hQ : ∀ h' tk acc' c', (∀ b o, s.heap.get? b = some o → h'.get? b = some o) →
      h'.get? s.heap.objs.size = some { cls := .type "list", dict := none, data := .seq acc' c', slots := #[] } → ItemsOf (fun i v => ∃ c u, b[i]? = some c ∧ v = .int (c.toNat : Int) u) acc' b.size → Q (.ref s.heap.objs.size) { s with heap := h', toks := tk }) :
    wpAny (model prog w) A (call (.type "list") [.bytes b t]) Q E s := by
  refine callType_codes (Q₁ := fun obj s₁ => obj = .ref s.heap.objs.size ∧ s₁ = { s with heap := s.heap.push { cls := .type "list", data := .seq #[] } }) F.called_list (F.typeCall_list_1 _) F.entry_list_init
    (code_list_new _ ⟨rfl, rfl⟩) fun obj s₁ h₁ => ?_
  obtain ⟨rfl, rfl⟩ := h₁
  have hS : (s.heap.push { cls := .type "list", data := .seq #[] }).get? s.heap.objs.size = some { cls := .type "list", data := .seq #[] } := Heap.get?_push_size _ rfl
  refine ⟨⟨_, hS, rfl⟩, F.args_list_init_2 _ _, ?_⟩
  generalize hH : s.heap.push { cls := .type "list", data := .seq #[] } = H at hS ⊢
  have hsz : H.objs.size = s.heap.objs.size + 1 := by rw [← hH, Heap.size_push]
  show wpAny _ _ (do let old ← Builtin.List.listItems (.ref s.heap.objs.size); Builtin.List.listUpdate (.ref s.heap.objs.size) (fun _ => #[]); letGo old.toList.reverse; Builtin.List.listExtendWith (.ref s.heap.objs.size) (.bytes b t) .none) _ _ _
  refine wpAny_bind ?_
  unfold Builtin.List.listItems
  refine wpAny_bind (wpAny_seqItems hS rfl (wpAny_pure ?_))
  show wpAny _ _ (updateSeq s.heap.objs.size (fun _ => #[]) >>= fun _ => letGo (#[] : Array Value).toList.reverse >>= fun _ => Builtin.List.listExtendWith (.ref s.heap.objs.size) (.bytes b t) .none) _ _ _
  refine wpAny_bind (wpAny_updateSeq hS rfl ?_)
  have hS₂ := Heap.get?_update_self (Obj.mapSeq (fun _ => (#[] : Array Value))) hS rfl
  have oth : ∀ b o, b ≠ s.heap.objs.size → H.get? b = some o → (H.update s.heap.objs.size (Obj.mapSeq (fun _ => (#[] : Array Value)))).get? b = some o :=
    fun b o hb e => (Heap.get?_update_other _ _ (Ne.symm hb)).trans e
  have hs2 : (H.update s.heap.objs.size (Obj.mapSeq (fun _ => (#[] : Array Value)))).objs.size = H.objs.size := Heap.size_update ..
  refine wpAny_bind (wpAny_letGo ?_)
  generalize hH2 : H.update s.heap.objs.size (Obj.mapSeq (fun _ => (#[] : Array Value))) = H2 at hS₂ oth hs2 ⊢
  have hSI : s.heap.objs.size ≠ H2.objs.size := by rw [hs2, hsz]; exact Nat.ne_of_lt (Nat.lt_succ_self _)
  have hSf : s.heap.objs.size ∉ [H2.objs.size] := fun hm => hSI (List.mem_singleton.mp hm)
  unfold Builtin.List.listExtendWith
  refine wpAny_bind (wpAny_typeOf (typeIs_bytes _ b t) ?_)
  have h1 : Builtin.List.listSameRef (.ref s.heap.objs.size) (.bytes b t) = false := rfl
  have h2 : (Value.type "bytes" == Value.type "list") = false := by decide
  have h3 : (Value.type "bytes" == Value.type "tuple") = false := by decide
  simp only [h1, h2, h3, Bool.or_false, Bool.false_eq_true, if_false]
  refine wpAny_bind (KBw.pyIter_bytes ?_)
  refine wpAny_bind (wpAny_holding ?_)
  unfold Builtin.List.listLengthHint
  refine wpAny_bind (wpAny_specialOf (typeIs_bytes _ b t) FB.slot_bytes_len.lookup ?_)
  wp_delta
  refine wpAny_bind (wpAny_isInstance (T := "bytes") (v := .bytes b t) (b := true) (typeIs_bytes _ b t) (by rw [isSubtype_type]; kernel_rfl) ?_)
  show wpAny _ _ (typeOf (Value.bytes b t) >>= _) _ _ _
  refine wpAny_bind (wpAny_typeOf (typeIs_bytes _ b t) ?_)
  refine wpAny_pure ?_
  rw [if_neg (by decide)]
  refine wpAny_pure ⟨plainId_quiet F.plain_extend_loop _, codeAny_extend_loopS (A := A.in1) (KBw.walks (prog := prog) (w := w) (A := A.in1.in1) hh H2.objs.size b t).toS (by rw [sizeLine_eq]; omega) _ hSf _ b.size 0 _ _ _ rfl (Nat.zero_le _)
    ⟨_, Heap.get?_push_size _ rfl, rfl, rfl⟩ (Heap.get?_push_of_some _ hS₂) (ItemsOf.nil _) fun s' acc' c' hm hS' hacc => ?_⟩
  rw [Moved.eq_with hm]
  refine ⟨rfl, hQ s'.heap s'.toks acc' c' (fun b ob e => ?_) hS' hacc⟩
  have hb : b ≠ s.heap.objs.size := Nat.ne_of_lt (Heap.lt_size e)
  have e2 : H2.get? b = some ob := oth b ob hb (hH ▸ Heap.get?_push_of_some _ e)
  refine hm.heap b ob (fun hmem => ?_) (Heap.get?_push_of_some _ e2)
  rcases List.mem_cons.mp hmem with e' | hmem
  · exact hb e'
  · exact absurd (Heap.lt_size e2) (by rw [List.mem_singleton.mp hmem]; exact Nat.lt_irrefl _)
end
end Mine
end

section
set_option maxRecDepth 100000
namespace Mine
open PySem PySem.W PySem.Spec PySem.Calls PyProof.Rows
theorem anyI_eq (x : Int) : ∀ l : List Int, anyI x l = l.any (· == x)
  | [] => rfl
  | y :: l => by
    unfold anyI
    rw [anyI_eq x l, List.any_cons]
    have : W.Z.eqB y x = (y == x) := by
      rw [Bool.eq_iff_iff, W.Z.eqB_iff, beq_iff_eq]
    rw [this]
    cases (y == x) <;> rfl
section
variable {prog : Program} {w : World} {hB : Heap} {C : Addr} {n : Nat} {nm : List (Str × NameKind)} {mg mb : Str → Option Value} {K : Frag}
theorem Cmp_inT : CmpOK prog w hB C n .In inTC := by
  intro A env nm own k φ ρ σ s a b va vb c hA S ra rb e Q E G
  unfold inTC at e
  split at e <;> try (cases e; done)
  split at e <;> try (cases e; done)
  rename_i x j y ey
  obtain ⟨l, e1, e2⟩ := bd1_some.mp e
  cases e2
  obtain ⟨t, rfl⟩ := ra
  obtain ⟨ad, vs, _, rfl, e3, rs⟩ := S.tuple ey rb
  have hi : IntsAre vs l := (ints_of rs e1).1
  refine in_tuple_ints (ns := l) ⟨_, e3, rfl, _, rfl⟩ (by simpa using hi) ?_
  rw [← anyI_eq]
  exact G.ext S (fun _ _ e => e) rfl
theorem F1_listB : F1OK prog w hB C n (.type "list") listBV := by
  intro A env nm own k φ ρ σ s a mv va σ' hA S r e Q E G
  unfold listBV at e
  split at e <;> try (cases e; done)
  rename_i x
  rw [frVs_eq] at e
  obtain ⟨hz, e⟩ := chk_some.mp e
  obtain ⟨rfl, rfl⟩ := new_some e
  obtain ⟨h256, t, rfl⟩ := r
  rw [List.length_map] at hz
  refine call_list_bytes hA.handled _ t (by simpa using hz) fun h' tk acc' c' hk hg hi => ?_
  refine G.fresh (tk := tk) S hk (get?_size _) hg ⟨acc'.toList, c', rfl, VRs_of (by have := hi.1; simpa using this) fun i v hv => ?_, by have := hi.1; simp at this ⊢; omega⟩
  have hv : acc'[i]? = some v := by simpa using hv
  obtain ⟨c, u, hc, rfl⟩ := hi.2 i v hv
  have hc : (x[i]?).map UInt8.ofNat = some c := by simpa using hc
  obtain ⟨d, hd, rfl⟩ := Option.map_eq_some_iff.mp hc
  refine ⟨.int (.ofNat d), by simp [hd], u, ?_⟩
  have : d < 256 := h256 d (List.mem_of_getElem? hd)
  have e : (UInt8.ofNat d).toNat = d := by simp; omega
  rw [e]; rfl
/-- a pair, the second made by a call -/
theorem SEI_tup2 {x y : Expr} {cx cy : CE} {q : Nat} {p : Pos} (hx : SE prog w hB C n nm x cx) (hy : SEI prog w hB C n nm y cy) (ht : ∀ env, backTo p (starEach [x, y] env) = [(false, eval x env), (false, eval y env)]) : SEI prog w hB C n nm (.Tuple [x, y] q p) (cTup [cx, cy]) := by
  intro A env own k φ ρ σ s mv σ' hA S e Q E G
  obtain ⟨ms, σ₁, e1, e⟩ := bnd_some.mp e
  obtain ⟨rfl, rfl⟩ := new_some e
  have e1 : bnd (cx k ρ σ) (fun v σ => bnd (bnd (cy k ρ σ) fun v σ => some ([v], σ)) fun vs σ => some (v :: vs, σ)) = some (ms, σ₁) := e1
  obtain ⟨a, σ₂, ea, e1⟩ := bnd_some.mp e1
  obtain ⟨bs, σ₃, eb, e1⟩ := bnd_some.mp e1
  obtain ⟨b, σ₄, ec, eb⟩ := bnd_some.mp eb
  cases eb
  cases e1
  rw [arm_eval_Tuple, ht]
  refine wpI_then (wpAny_standAt (wpI_bind ?_))
  rw [spliced]
  refine wpI_then (hx A env own k φ ρ σ s a σ₂ hA S ea _ E fun va φ₁ h₁ tk₁ x₁ S₁ r₁ => ?_)
  simp only [Bool.false_eq_true, if_false]
  refine wpI_then (wpAny_pure (wpI_bind (wpI_holding ?_)))
  rw [spliced]
  refine wpI_bind (hy A env own k φ₁ ρ σ₂ _ b _ hA S₁ ec _ E fun vb φ₂ h₂ tk₂ x₂ S₂ r₂ => ?_)
  simp only [Bool.false_eq_true, if_false]
  refine wpI_of (wpAny_bind (wpAny_pure (wpAny_bind (wpAny_holding (wpAny_pure (wpAny_pure (wpI_pure (wpI_of (wpAny_newObj_type ?_ ?_)))))))))
  · exact Gv.made (s := { s with heap := h₂, toks := tk₂ }) S₂ ((G.from x₁).from x₂) ⟨_, rfl, r₁.later x₂, r₂, trivial⟩ rfl
  · show (#[va, vb] : Array Value).size ≤ sizeLine
    rw [sizeLine_eq]; exact (by decide : 2 ≤ 16777216)
theorem SSI_ret {v : Expr} {p : Pos} {c : CE} (h : SEI prog w hB C n nm v c) : SSI prog w hB C n nm (.Return (some v) p) (sRet c) := by
  intro A env own k φ ρ σ s mf ρ' σ' hA S e Q E G
  obtain ⟨u, σ₁, e1, e⟩ := bnd_some.mp e
  cases e
  rw [exec_Return_some]
  refine wpI_then (wpAny_standAt (wpI_bind (h A env own k φ ρ σ s u _ hA S e1 _ E fun va φ₁ h₁ tk₁ x₁ S₁ r₁ => ?_)))
  exact wpI_pure (G (.ret va) φ₁ h₁ tk₁ x₁ S₁ ⟨va, rfl, r₁⟩)
theorem SSI_tp {is : List Nat} {es : List Expr} {q : Nat} {tp p : Pos} {v : Expr} {c : CE} (hn : Nmds nm is es) (h : SEI prog w hB C n nm v c) (hs : ∀ env, swapsWithSole [.Tuple es q tp] v p.line env = pure false)
    (hw : ∀ env, Knows nm env → swappedStores [.Tuple es q tp] v env = pure none) : SSI prog w hB C n nm (.Assign [.Tuple es q tp] v p) (sTp is c) := by
  intro A env own k φ ρ σ s mf ρ' σ' hA S e Q E G
  obtain ⟨u, σ₁, e1, e⟩ := bnd_some.mp e
  obtain ⟨ρ₁, e2, e⟩ := bd1_some.mp e
  cases e
  rw [exec_Assign]
  refine wpI_then (wpAny_standAt ?_)
  rw [hs]
  refine wpI_then (wpAny_pure ?_)
  rw [if_neg (by decide)]
  refine wpI_bind (h A env own k φ ρ σ s u _ hA S e1 _ E fun va φ₁ h₁ tk₁ x₁ S₁ r₁ => ?_)
  rw [hw env ⟨S.kind, S.names⟩]
  refine wpI_of (wpAny_bind (wpAny_pure ?_))
  show wpAny _ A (do assignAll va [assign (.Tuple es q tp) env]; pure .next) Q E _
  refine wpAny_bind (assign_tup hA hn S₁ r₁ e2 fun h' tk x₂ S₂ => wpAny_pure ((G.from x₁) .next φ₁ h' tk x₂ S₂ rfl))
end
end Mine
end

section
set_option maxRecDepth 100000
namespace Mine
open PySem PySem.W PySem.Spec PySem.Calls PyProof.Rows
theorem swaps_fold {nm : List (Str × NameKind)} {env : Env} (k : Knows nm env) {i j : Nat} {x y : Str} {px py : Pos} {q q' : Nat} {tp tp' : Pos} {u v : Expr} (hx : nm[i]? = some (x, .local)) (hy : nm[j]? = some (y, .local)) (hl : (py.line == px.line) = true) (hne : x ≠ y)
    (hs : ([u, v].any fun | .Starred .. => true | _ => false) = false) (hf : [u, v].all (foldedForSure 8) = true) :
    swappedStores [.Tuple [.Name x px, .Name y py] q tp] (.Tuple [u, v] q' tp') env = pure none := by
  have h1 : env.kindOf x = some .local := (k.2 i x _ hx).resolve_right fun z => nomatch z.1
  have h2 : env.kindOf y = some .local := (k.2 j y _ hy).resolve_right fun z => nomatch z.1
  have hb : env.blockKind = .function := by unfold Env.blockKind; rw [k.1]; rfl
  have hd : ([x, y].eraseDups.length != [x, y].length) = false := by
    have : ¬ (y == x) = true := fun e => hne (eq_of_beq e).symm
    simp [List.eraseDups_cons, this]
  have hp : (Expr.Name x px).pos.line = px.line := rfl
  unfold swappedStores
  simp only [hb, h1, h2, hp, hl, List.length_cons, List.length_nil, List.filterMap_cons, List.filterMap_nil, List.head?_cons, Option.map_some, Option.getD_some, beq_self_eq_true, Bool.and_self, if_true]
  refine Eq.trans (if_neg (by decide)) ?_
  refine Eq.trans (if_neg (fun q => Bool.false_ne_true (hs.symm.trans q))) ?_
  refine Eq.trans (if_neg (fun q => ?_)) ?_
  · have q : ((0 + 1 + 1 != 0 + 1 + 1) || ([x, y].eraseDups.length != [x, y].length)) = true := q
    rw [hd] at q
    cases q
  · rw [hf]
    rfl
end Mine
end

section
set_option maxRecDepth 100000
namespace Mine
open PySem PySem.W PySem.Spec PySem.Calls PyProof.Rows PySem.SeqAt
theorem ints_at : ∀ {vs : List Value} {l : List Int}, IntsAre vs l → ∀ (j : Nat) (v : Value), vs[j]? = some v → ∃ t, v = .int (l.getD j 0) t
  | _, _, .nil, j, v, e => by simp at e
  | _, _, .cons n t r, 0, v, e => by simp at e; exact ⟨t, by rw [← e]; rfl⟩
  | _, _, .cons n t r, j + 1, v, e => by
    obtain ⟨u, h⟩ := ints_at r j v (by simpa using e)
    exact ⟨u, by rw [h]; simp⟩
theorem refT_some {a : MV} {i : Nat} (h : refT a = some i) : a = .ref i := by
  cases a <;> cases h
  rfl
theorem tupT_some {σ : Hp} {i : Nat} {u : List MV} (h : tupT σ i = some u) : getO σ i = some (.tuple u) := by
  obtain ⟨o, e, h⟩ := bd1_some.mp h
  rw [e]
  cases o <;> cases h
  rfl
theorem intT_some {a : MV} (h : intT a = true) : ∃ x, a = .int x := by
  cases a <;> first | cases h; done | exact ⟨_, rfl⟩
theorem headT_some {l : List MV} {c : Nat} (h : headT l = some c) : ∃ x, l = [.ref c, .int x] := by
  rcases l with _ | ⟨a, _ | ⟨b, _ | ⟨d, l⟩⟩⟩
  · cases h
  · cases h
  · have h : cnd (intT b) (refT a) none = some c := h
    rw [cnd_eq] at h
    split at h
    · rename_i q
      obtain ⟨x, rfl⟩ := intT_some q
      exact ⟨x, by rw [refT_some h]⟩
    · cases h
  · cases h
section
variable {prog : Program} {w : World} {hB : Heap} {C : Addr} {n : Nat} {nm : List (Str × NameKind)} {mg mb : Str → Option Value} {K : Frag}
theorem Cmp_eqT : CmpOK prog w hB C n .Eq eqTC := by
  intro A env nm own k φ ρ σ s a b va vb r hA S ra rb e Q E G
  unfold eqTC at e
  obtain ⟨i, ea, z1⟩ := bd1_some.mp e
  obtain ⟨j, eb, z2⟩ := bd1_some.mp z1
  obtain ⟨_, ei, z3⟩ := bd1_some.mp z2
  obtain ⟨_, ej, z4⟩ := bd1_some.mp z3
  obtain ⟨c, zc, z5⟩ := bd1_some.mp z4
  obtain ⟨d, zd, z6⟩ := bd1_some.mp z5
  obtain ⟨u, ec, z7⟩ := bd1_some.mp z6
  obtain ⟨v, ed, z8⟩ := bd1_some.mp z7
  clear e z1 z2 z3 z4 z5 z6 z7
  have e := z8
  clear z8
  obtain ⟨x, rfl⟩ := headT_some zc
  obtain ⟨y, rfl⟩ := headT_some zd
  cases refT_some ea
  cases refT_some eb
  replace ei := tupT_some ei
  replace ej := tupT_some ej
  replace ec := tupT_some ec
  replace ed := tupT_some ed
  obtain ⟨l, e1, e⟩ := bd1_some.mp e
  obtain ⟨l', e2, e⟩ := bd1_some.mp e
  rw [cnd_eq] at e
  split at e
  · exact Cmp_eq A env nm own k φ ρ σ s _ _ va vb r hA S ra rb e Q E G
  · rename_i hl
    cases e
    have hu : A.units + 5 < cLine := by have := hA.units; show _ < 9900; omega
    obtain ⟨a1, vs, f1, rfl, q1, r1⟩ := S.tuple ei ra
    obtain ⟨a2, us, f2, rfl, q2, r2⟩ := S.tuple ej rb
    obtain ⟨vc, vx, rfl, rc, rx⟩ := VRs.two r1
    obtain ⟨vd, vy, rfl, rd, ry⟩ := VRs.two r2
    obtain ⟨ac, vs', f3, rfl, q3, r3⟩ := S.tuple ec rc
    obtain ⟨ad, us', f4, rfl, q4, r4⟩ := S.tuple ed rd
    obtain ⟨tx, rfl⟩ := rx
    obtain ⟨ty, rfl⟩ := ry
    have h3 := ints_of r3 e1
    have h4 := ints_of r4 e2
    have hlen : vs'.length ≠ us'.length := fun q => hl (by
      rw [len_eq, len_eq, ← IntsAre.length h3.1, ← IntsAre.length h4.1, q]
      exact Nat.beq_refl _)
    have hne : ac ≠ ad := fun q => by
      subst q
      rw [q3] at q4
      have q4 := Option.some.inj q4
      injection q4 with _ _ q4
      injection q4 with q4
      have q5 := congrArg Array.size q4
      exact hlen (by simpa using q5)
    have inner : RcAt A.in1 s (.ref ac) (.ref ad) false := by
      have g := RcAt.tuples (A := A.in1) (s := s) (l := ac) (b := ad) (items := vs'.toArray) (items2 := us'.toArray) (e := fun j => l.getD j 0 == l'.getD j 0) ⟨_, q3, rfl, _, rfl⟩ ⟨_, q4, rfl, _, rfl⟩ (by show A.units + 1 < _; omega) fun j h1 h2 => by
        obtain ⟨t, e⟩ := ints_at h3.1 j vs'.toArray[j] (by simp at h1 ⊢)
        obtain ⟨t', e'⟩ := ints_at h4.1 j us'.toArray[j] (by simp at h2 ⊢)
        rw [e, e']
        exact EqAt.int_int _ _ _ _
      have hz : (vs'.toArray.size == us'.toArray.size) = false := by simpa using hlen
      rw [hz, Bool.and_false] at g
      exact g
    have g := RcAt.tuples (A := A) (s := s) (l := a1) (b := a2) (items := #[.ref ac, .int x tx]) (items2 := #[.ref ad, .int y ty]) (e := fun j => if j = 0 then false else x == y) ⟨_, q1, rfl, _, rfl⟩ ⟨_, q2, rfl, _, rfl⟩ (by omega) fun j h1 h2 => by
      match j, h1 with
      | 0, _ => exact EqAt.of_refs hne inner
      | 1, _ => exact EqAt.int_int _ _ _ _
    have hz : ((List.range (min (#[Value.ref ac, .int x tx] : Array Value).size (#[Value.ref ad, .int y ty] : Array Value).size)).all (fun j => if j = 0 then false else x == y) && (#[Value.ref ac, .int x tx] : Array Value).size == (#[Value.ref ad, .int y ty] : Array Value).size) = false := by
      show ((List.range 2).all (fun j => if j = 0 then false else x == y) && true) = false
      rfl
    rw [hz] at g
    exact g prog w E Q (G.ext S (fun _ _ e => e) rfl)
end
end Mine
end

section
namespace Mine.L2
open PySem Mine
noncomputable section
def B_init : CS := (sSeq [
  sAt (cLoc 0) 0 (cLoc 1),
  sTp [2, 3] (cTup [(cVal (.str [32])), (cVal (.str [9]))]),
  sNm 4 (cLst []),
  sMul [5, 6, 7] (cVal (.int (.ofNat 0))),
  sFor (.one 8) (iE (cAttr (cLoc 0) 0)) (sSeq [
    sIf (tCmp eqC (cLoc 8) (cLoc 2)) (sSeq [
      sNm 6 (cBin addV (cLoc 6) (cVal (.int (.ofNat 1)))),
      sNm 5 (cBin addV (cLoc 5) (cVal (.int (.ofNat 1))))]) (sSeq [
      sIf (tCmp eqC (cLoc 8) (cLoc 3)) (sSeq [
        sNm 6 (cBin addV (cLoc 6) (cVal (.int (.ofNat 1)))),
        sNm 7 (cBin addV (cLoc 7) (cVal (.int (.ofNat 1)))),
        sIf (tCmp geC (cLoc 5) (cB1 lenV (cLoc 4))) (sSeq [
          sNm 4 (cBin addV (cLoc 4) (cBin mulV (cLst [(cVal (.int (.ofNat 0)))]) (cBin addV (cBin subV (cLoc 5) (cB1 lenV (cLoc 4))) (cVal (.int (.ofNat 1))))))]) (sSeq []),
        sSb (cLoc 4) (cLoc 5) (cBin addV (cSub (cLoc 4) (cLoc 5)) (cVal (.int (.ofNat 1)))),
        sNm 5 (cVal (.int (.ofNat 0)))]) (sSeq [
        sBrk])])]),
  sAt (cLoc 0) 1 (cLoc 6),
  sAt (cLoc 0) 2 (cLoc 7),
  sAt (cLoc 0) 3 (cTup [(cB1 tupleV (cLoc 4)), (cLoc 5)]),
  sAt (cLoc 0) 4 (cCmp leC (cB1 lenV (cLoc 4)) (cVal (.int (.ofNat 1))))])
def F_init : FS := fNew 12 [0, 1] B_init
def B_longest_run_of_spaces : CS := (sSeq [
  sTp [1, 2] (cAttr (cLoc 0) 3),
  sRet (cB2 maxV (cBin subV (cB1 lenV (cLoc 1)) (cVal (.int (.ofNat 1)))) (cLoc 2))])
def F_longest_run_of_spaces : FS := (fDef 5 [0] B_longest_run_of_spaces)
def B_indent_level : CS := (sSeq [
  sTp [2, 3] (cAttr (cLoc 0) 3),
  sNm 4 (cVal (.int (.ofNat 0))),
  sFor (.one 5) (iR [(cLoc 1), (cB1 lenV (cLoc 2))]) (sSeq [
    sNm 4 (cBin addV (cLoc 4) (cBin mulV (cBin divV (cLoc 5) (cLoc 1)) (cSub (cLoc 2) (cLoc 5))))]),
  sRet (cBin addV (cLoc 3) (cBin mulV (cLoc 1) (cBin addV (cLoc 4) (cAttr (cLoc 0) 2))))])
def F_indent_level : FS := (fDef 8 [0, 1] B_indent_level)
def B_equal : CS := (sSeq [
  sRet (cCmp eqTC (cAttr (cLoc 0) 3) (cAttr (cLoc 1) 3))])
def F_equal : FS := (fDef 2 [0, 1] B_equal)
def B_not_equal_witness : CS := (sSeq [
  sNm 2 (cBin addV (cB2 maxV (cIm F_longest_run_of_spaces (cLoc 0) []) (cIm F_longest_run_of_spaces (cLoc 1) [])) (cVal (.int (.ofNat 1)))),
  sNm 3 (cLst []),
  sFor (.one 4) (iR [(cVal (.int (.ofNat 1))), (cBin addV (cLoc 2) (cVal (.int (.ofNat 1))))]) (sSeq [
    sIf (tCmp neC (cIm F_indent_level (cLoc 0) [(cLoc 4)]) (cIm F_indent_level (cLoc 1) [(cLoc 4)])) (sSeq [
      sExp (cMeth isL appendV (cLoc 3) (cTup [(cLoc 4), (cIm F_indent_level (cLoc 0) [(cLoc 4)]), (cIm F_indent_level (cLoc 1) [(cLoc 4)])]))]) (sSeq [])]),
  sRet (cLoc 3)])
def F_not_equal_witness : FS := (fDef 7 [0, 1] B_not_equal_witness)
def B_not_less_witness : CS := (sSeq [
  sNm 2 (cBin addV (cB2 maxV (cIm F_longest_run_of_spaces (cLoc 0) []) (cIm F_longest_run_of_spaces (cLoc 1) [])) (cVal (.int (.ofNat 1)))),
  sNm 3 (cLst []),
  sFor (.one 4) (iR [(cVal (.int (.ofNat 1))), (cBin addV (cLoc 2) (cVal (.int (.ofNat 1))))]) (sSeq [
    sIf (tCmp geC (cIm F_indent_level (cLoc 0) [(cLoc 4)]) (cIm F_indent_level (cLoc 1) [(cLoc 4)])) (sSeq [
      sExp (cMeth isL appendV (cLoc 3) (cTup [(cLoc 4), (cIm F_indent_level (cLoc 0) [(cLoc 4)]), (cIm F_indent_level (cLoc 1) [(cLoc 4)])]))]) (sSeq [])]),
  sRet (cLoc 3)])
def F_not_less_witness : FS := (fDef 7 [0, 1] B_not_less_witness)
def B_byteswap : CS := (sSeq [
  sNm 2 (cB1 barrV (cB1 lenV (cLoc 0))),
  sFor (.one 3) (iR [(cVal (.int (.ofNat 0))), (cB1 lenV (cLoc 0)), (cLoc 1)]) (sSeq [
    sFor (.one 4) (iR [(cLoc 1)]) (sSeq [
      sSb (cLoc 2) (cBin subV (cBin subV (cBin addV (cLoc 3) (cLoc 1)) (cVal (.int (.ofNat 1)))) (cLoc 4)) (cSub (cLoc 0) (cBin addV (cLoc 3) (cLoc 4)))])]),
  sRet (cB1 bytesV (cLoc 2))])
def F_byteswap : FS := (gcF (fDef 9 [0, 1] B_byteswap))
def B_law_leads : CS := (sSeq [
  sTp [1, 2] (cTup [(cVal (.str [])), (cVal (.str []))]),
  sFor (.one 3) (iR [(cVal (.int (.ofNat 5)))]) (sSeq [
    sFor (.one 4) (iR [(cLoc 3)]) (sSeq [
      sAugN 1 iadV (cBin addV (cBin mulV (cVal (.str [32])) (cSub (cLoc 0) (cLoc 3))) (cVal (.str [9, 9]))),
      sAugN 2 iadV (cBin addV (cBin addV (cBin addV (cBin mulV (cVal (.str [32])) (cSub (cLoc 0) (cLoc 4))) (cVal (.str [9]))) (cBin mulV (cVal (.str [32])) (cBin subV (cSub (cLoc 0) (cLoc 3)) (cSub (cLoc 0) (cLoc 4))))) (cVal (.str [9])))])]),
  sRet (cTup [(cLoc 1), (cLoc 2)])])
def F_law_leads : FS := (fDef 6 [0] B_law_leads)
def B_law_round : CS := (sSeq [
  sNm 2 (cLst []),
  sFor (.one 3) (iR [(cB1 lenV (cLoc 0))]) (sSeq [
    sIf (tAnd [(tCmp inTC (cBin modV (cLoc 3) (cVal (.int (.ofNat 5)))) (cTup [(cVal (.int (.ofNat 0))), (cVal (.int (.ofNat 2)))])), (tCmp ltC (cBin mulV (cBin subV (cSub (cLoc 0) (cBin addV (cLoc 3) (cVal (.int (.ofNat 1))))) (cSub (cLoc 0) (cLoc 3))) (cLoc 1)) (cVal (.int (.ofNat 0))))]) (sSeq [
      sExp (cMeth isL appendV (cLoc 2) (cLoc 3))]) (sSeq [])]),
  sNm 4 (cCall F_byteswap [(cMeth isBy joinV (cVal (.bytes [])) (cComp (.one 1) (iE (cLoc 2)) (fun acc => (gIfs [] (gEmit acc (cSlc (cLoc 2) (some (cLoc 1)) (some (cBin addV (cLoc 1) (cVal (.int (.ofNat 2))))))))) [none, none, some 0])), (cVal (.int (.ofNat 2)))]),
  sNm 5 (cB1 listBV (cLoc 0)),
  sFor (.many [6, 3]) (iN (cLoc 2)) (sSeq [
    sSb (cLoc 5) (cLoc 3) (cSub (cLoc 4) (cBin mulV (cVal (.int (.ofNat 2))) (cLoc 6))),
    sSb (cLoc 5) (cBin addV (cLoc 3) (cVal (.int (.ofNat 1)))) (cSub (cLoc 4) (cBin addV (cBin mulV (cVal (.int (.ofNat 2))) (cLoc 6)) (cVal (.int (.ofNat 1)))))]),
  sRet (cTup [(cLoc 2), (cCall F_byteswap [(cB1 bytesV (cLoc 5)), (cVal (.int (.ofNat 5)))])])])
def F_law_round : FS := (fDef 13 [0, 1] B_law_round)
def B_law : CS := (sSeq [
  sNm 1 (cComp (.one 1) (iE (cSlc (cLoc 0) none (some (cVal (.int (.ofNat 5)))))) (fun acc => (gIfs [] (gEmit acc (cBin modV (cB1 intV (cLoc 1)) (cBin powV (cVal (.int (.ofNat 10))) (cVal (.int (.ofNat 6)))))))) [none, none, none]),
  sNm 2 (cB1 sortedV (cComp (.one 1) (iE (cBin addV (cLoc 1) (cSlc (cLst [(cVal (.int (.ofNat 7))), (cVal (.int (.ofNat 3))), (cVal (.int (.ofNat 8))), (cVal (.int (.ofNat 5))), (cVal (.int (.ofNat 2)))]) (some (cB1 lenV (cLoc 1))) none))) (fun acc => (gIfs [] (gEmit acc (cBin modV (cLoc 1) (cVal (.int (.ofNat 10))))))) [none, none])),
  sNm 3 (cB2 range2V (cVal (.int (.ofNat 1))) (cBin addV (cSub (cLoc 2) (cVal (.int (.ofNat 4)))) (cVal (.int (.ofNat 2))))),
  sNm 5 (cComp (.one 1) (iE (cLoc 3)) (fun acc => (gIfs [] (gEmit acc (cComp (.one 1) (iE (cLoc 2)) (fun acc => (gIfs [] (gEmit acc (cBin modV (cLoc 1) (cLoc 2))))) [none, none, some 1])))) [none, none, some 2]),
  sTp [6, 7] (cTup [(cMeth isBy joinV (cVal (.bytes [])) (cComp (.one 1) (iE (cLoc 5)) (fun acc => (gIfs [] (gEmit acc (cB1 bytesV (cLoc 1))))) [none, none, none])), (cLst [])]),
  sFor (.one 8) (iR [(cVal (.int (.ofNat 5)))]) (sSeq [
    sTp [9, 6] (cCall F_law_round [(cLoc 6), (cBin subV (cVal (.int (.ofNat 1))) (cBin mulV (cVal (.int (.ofNat 2))) (cBin modV (cLoc 8) (cVal (.int (.ofNat 2))))))]),
    sAugL 7 (cComp (.one 1) (iE (cLoc 9)) (fun acc => (gIfs [] (gEmit acc (cBin addV (cBin divV (cLoc 1) (cVal (.int (.ofNat 5)))) (cVal (.int (.ofNat 1))))))) [none, none])]),
  sIf (tOr [(tCmp neC (cLoc 6) (cMeth isBy joinV (cVal (.bytes [])) (cComp (.one 1) (iE (cLoc 5)) (fun acc => (gIfs [] (gEmit acc (cB1 bytesV (cRev (cB1 sortedV (cLoc 1))))))) [none, none, none, none]))), (tNot (tVal (cB1 isbV (cLoc 6))))]) (sSeq [
    sRet (cVal (.bool false))]) (sSeq []),
  sNm 10 (cLst []),
  sFor (.one 4) (iE (cLoc 3)) (sSeq [
    sNm 11 (cBin mulV (cLoc 4) (cB1 sumV (cComp (.many [1, 2]) (iN (cLoc 2)) (fun acc => (gIfs [] (gEmit acc (cBin mulV (cLoc 1) (cBin addV (cBin divV (cLoc 2) (cLoc 3)) (cVal (.int (.ofNat 2)))))))) [none, none, none, some 4]))),
    sExp (cMeth isL appendV (cLoc 10) (cTup [(cLoc 4), (cLoc 11), (cBin subV (cLoc 11) (cBin mulV (cLoc 4) (cMeth isL countLV (cLoc 7) (cLoc 4))))]))]),
  sNm 12 (cCall F_law_leads [(cLoc 2)]),
  sTp [13, 14] (cTup [(cNew F_init (cBin addV (cSub (cLoc 12) (cVal (.int (.ofNat 0)))) (cVal (.str [120])))), (cNew F_init (cBin addV (cSub (cLoc 12) (cVal (.int (.ofNat 1)))) (cVal (.str [120]))))]),
  sIf (tOr [(tCmp neC (cIm F_not_less_witness (cLoc 13) [(cLoc 14)]) (cLoc 10)), (tCmp neC (cIm F_equal (cLoc 13) [(cLoc 14)]) (cCmp eqC (cLoc 7) (cLst [])))]) (sSeq [
    sRet (cVal (.bool false))]) (sSeq []),
  sIf (tCmp neC (cIm F_not_less_witness (cLoc 14) [(cLoc 13)]) (cComp (.one 1) (iE (cLoc 10)) (fun acc => (gIfs [(tCmp ninC (cSub (cLoc 1) (cVal (.int (.ofNat 0)))) (cLoc 2))] (gEmit acc (cLoc 1)))) [none, none, some 7])) (sSeq [
    sRet (cVal (.bool false))]) (sSeq []),
  sRet (cCmp eqC (cIm F_not_equal_witness (cLoc 13) [(cLoc 14)]) (cComp (.one 1) (iE (cLoc 10)) (fun acc => (gIfs [(tCmp inC (cSub (cLoc 1) (cVal (.int (.ofNat 0)))) (cLoc 2))] (gEmit acc (cLoc 1)))) [none, none, some 7]))])
def F_law : FS := (fDef 25 [0] B_law)
end
end Mine.L2
end

section
namespace Mine.L2
open PySem PySem.W PySem.Calls PyProof.Rows Mine
set_option maxRecDepth 100000
set_option maxHeartbeats 4000000
variable {prog : Program} {w : World} {hB : Heap} {C : Addr} {n : Nat} {mg mb : Str → Option Value} {K : Frag}
theorem D_init (V : Ev hB C mg mb K) (H_S : ∀ {nm : List (Str × NameKind)} {np p : Pos} (i : Nat), nm[i]? = some (("Whitespace" : Str), NameKind.globalImplicit) → SE prog w hB C n nm (.Attribute (.Name "Whitespace" np) "S" p) (cVal (.str [32]))) (H_T : ∀ {nm : List (Str × NameKind)} {np p : Pos} (i : Nat), nm[i]? = some (("Whitespace" : Str), NameKind.globalImplicit) → SE prog w hB C n nm (.Attribute (.Name "Whitespace" np) "T" p) (cVal (.str [9]))) : SB prog w hB C n (methScope PySem.Challenge.pw_pg0147_02 2 1).names (methBody PySem.Challenge.pw_pg0147_02 2 1) B_init :=
  (SB_cons (SS_at V.X V.KX (by rfl) (SE_loc rfl (.inl rfl) (by rfl) (by rfl)) (SE_loc rfl (.inl rfl) (by rfl) (by rfl)) (fun _ => rfl))
  (SB_cons (SS_tp2 (.inl rfl) (.inl rfl) (by decide) (SE_tup ⟨(H_S 9 rfl), (H_T 9 rfl), trivial⟩ (fun _ => rfl) (by decide)) (fun _ => rfl) (fun _ k => swaps_two k (i := 2) (j := 3) rfl rfl (by rfl) (by decide) (by rfl) (by rfl) (by rfl)))
  (SB_cons (SS_nm (.inl rfl) (SE_lst trivial (fun _ => rfl) (by decide)) (fun _ => rfl))
  (SB_cons (SS_mul3 (.inl rfl) (.inl rfl) (.inl rfl) SE_int (by intro env k; rfl))
  (SB_cons (SS_for ⟨_, _, rfl, (.inl rfl)⟩ (SI_e (SE_attr V.X V.KX (by rfl) (SE_loc rfl (.inl rfl) (by rfl) (by rfl)))) (SB_cons (SS_if (ST_cmp Cmp_eq (SE_loc rfl (.inl rfl) (by rfl) (by rfl)) (SE_loc rfl (.inl rfl) (by rfl) (by rfl)) (by with_unfolding_all rfl)) (SB_cons (SS_nm (.inl rfl) (SE_bin Op_add (SE_loc rfl (.inl rfl) (by rfl) (by rfl)) SE_int) (fun _ => rfl))
  (SB_cons (SS_nm (.inl rfl) (SE_bin Op_add (SE_loc rfl (.inl rfl) (by rfl) (by rfl)) SE_int) (fun _ => rfl)) SB_nil)) (SB_cons (SS_if (ST_cmp Cmp_eq (SE_loc rfl (.inl rfl) (by rfl) (by rfl)) (SE_loc rfl (.inl rfl) (by rfl) (by rfl)) (by with_unfolding_all rfl)) (SB_cons (SS_nm (.inl rfl) (SE_bin Op_add (SE_loc rfl (.inl rfl) (by rfl) (by rfl)) SE_int) (fun _ => rfl))
  (SB_cons (SS_nm (.inl rfl) (SE_bin Op_add (SE_loc rfl (.inl rfl) (by rfl) (by rfl)) SE_int) (fun _ => rfl))
  (SB_cons (SS_if (ST_cmp Cmp_ge (SE_loc rfl (.inl rfl) (by rfl) (by rfl)) (SE_b1 V.Gl (V.bi 0 10 rfl rfl (by rfl)) (.inl ⟨_, rfl⟩) F1_len (SE_loc rfl (.inl rfl) (by rfl) (by rfl)) (fun _ => rfl)) (by with_unfolding_all rfl)) (SB_cons (SS_nm (.inl rfl) (SE_bin Op_add (SE_loc rfl (.inl rfl) (by rfl) (by rfl)) (SE_bin Op_mul (SE_lst ⟨SE_int, trivial⟩ (fun _ => rfl) (by decide)) (SE_bin Op_add (SE_bin Op_sub (SE_loc rfl (.inl rfl) (by rfl) (by rfl)) (SE_b1 V.Gl (V.bi 0 10 rfl rfl (by rfl)) (.inl ⟨_, rfl⟩) F1_len (SE_loc rfl (.inl rfl) (by rfl) (by rfl)) (fun _ => rfl))) SE_int))) (fun _ => rfl)) SB_nil) SB_nil)
  (SB_cons (SS_sb (SE_bin Op_add (SE_sub (SE_loc rfl (.inl rfl) (by rfl) (by rfl)) (SE_loc rfl (.inl rfl) (by rfl) (by rfl)) (fun _ _ => rfl)) SE_int) (SE_loc rfl (.inl rfl) (by rfl) (by rfl)) (SE_loc rfl (.inl rfl) (by rfl) (by rfl)) (fun _ => rfl))
  (SB_cons (SS_nm (.inl rfl) SE_int (fun _ => rfl)) SB_nil))))) (SB_cons SS_brk SB_nil)) SB_nil)) SB_nil) (fun _ _ => rfl))
  (SB_cons (SS_at V.X V.KX (by rfl) (SE_loc rfl (.inl rfl) (by rfl) (by rfl)) (SE_loc rfl (.inl rfl) (by rfl) (by rfl)) (fun _ => rfl))
  (SB_cons (SS_at V.X V.KX (by rfl) (SE_loc rfl (.inl rfl) (by rfl) (by rfl)) (SE_loc rfl (.inl rfl) (by rfl) (by rfl)) (fun _ => rfl))
  (SB_cons (SS_at V.X V.KX (by rfl) (SE_tup ⟨(SE_b1 V.Gl (V.bi 8 11 rfl rfl (by rfl)) (.inr ⟨_, rfl⟩) F1_tuple (SE_loc rfl (.inl rfl) (by rfl) (by rfl)) (fun _ => rfl)), (SE_loc rfl (.inl rfl) (by rfl) (by rfl)), trivial⟩ (fun _ => rfl) (by decide)) (SE_loc rfl (.inl rfl) (by rfl) (by rfl)) (fun _ => rfl))
  (SB_cons (SS_at V.X V.KX (by rfl) (SE_cmp Cmp_le (SE_b1 V.Gl (V.bi 0 10 rfl rfl (by rfl)) (.inl ⟨_, rfl⟩) F1_len (SE_loc rfl (.inl rfl) (by rfl) (by rfl)) (fun _ => rfl)) SE_int (by with_unfolding_all rfl)) (SE_loc rfl (.inl rfl) (by rfl) (by rfl)) (fun _ => rfl)) SB_nil)))))))))
theorem D_longest_run_of_spaces (V : Ev hB C mg mb K) : SB prog w hB C n (methScope PySem.Challenge.pw_pg0147_02 2 2).names (methBody PySem.Challenge.pw_pg0147_02 2 2) B_longest_run_of_spaces :=
  (SB_cons (SS_tp ⟨⟨_, _, rfl, (.inl rfl)⟩, ⟨_, _, rfl, (.inl rfl)⟩, trivial⟩ (SE_attr V.X V.KX (by rfl) (SE_loc rfl (.inl rfl) (by rfl) (by rfl))) (fun _ => rfl) (fun _ _ => rfl))
  (SB_cons (SS_ret (SE_b2 V.Gl (V.bi 9 3 rfl rfl (by rfl)) (.inl ⟨_, rfl⟩) F2_max (SE_bin Op_sub (SE_b1 V.Gl (V.bi 0 4 rfl rfl (by rfl)) (.inl ⟨_, rfl⟩) F1_len (SE_loc rfl (.inl rfl) (by rfl) (by rfl)) (fun _ => rfl)) SE_int) (SE_loc rfl (.inl rfl) (by rfl) (by rfl)) (fun _ => rfl))) SB_nil))
theorem D_indent_level (V : Ev hB C mg mb K) : SB prog w hB C n (methScope PySem.Challenge.pw_pg0147_02 2 3).names (methBody PySem.Challenge.pw_pg0147_02 2 3) B_indent_level :=
  (SB_cons (SS_tp ⟨⟨_, _, rfl, (.inl rfl)⟩, ⟨_, _, rfl, (.inl rfl)⟩, trivial⟩ (SE_attr V.X V.KX (by rfl) (SE_loc rfl (.inl rfl) (by rfl) (by rfl))) (fun _ => rfl) (fun _ _ => rfl))
  (SB_cons (SS_nm (.inl rfl) SE_int (fun _ => rfl))
  (SB_cons (SS_for ⟨_, _, rfl, (.inl rfl)⟩ (SI_range V.Gl (V.bi 1 6 rfl rfl (by rfl)) ⟨(SE_loc rfl (.inl rfl) (by rfl) (by rfl)), (SE_b1 V.Gl (V.bi 0 7 rfl rfl (by rfl)) (.inl ⟨_, rfl⟩) F1_len (SE_loc rfl (.inl rfl) (by rfl) (by rfl)) (fun _ => rfl)), trivial⟩ (fun _ => rfl)) (SB_cons (SS_nm (.inl rfl) (SE_bin Op_add (SE_loc rfl (.inl rfl) (by rfl) (by rfl)) (SE_bin Op_mul (SE_bin Op_div (SE_loc rfl (.inl rfl) (by rfl) (by rfl)) (SE_loc rfl (.inl rfl) (by rfl) (by rfl))) (SE_sub (SE_loc rfl (.inl rfl) (by rfl) (by rfl)) (SE_loc rfl (.inl rfl) (by rfl) (by rfl)) (fun _ _ => rfl)))) (fun _ => rfl)) SB_nil) (fun _ _ => rfl))
  (SB_cons (SS_ret (SE_bin Op_add (SE_loc rfl (.inl rfl) (by rfl) (by rfl)) (SE_bin Op_mul (SE_loc rfl (.inl rfl) (by rfl) (by rfl)) (SE_bin Op_add (SE_loc rfl (.inl rfl) (by rfl) (by rfl)) (SE_attr V.X V.KX (by rfl) (SE_loc rfl (.inl rfl) (by rfl) (by rfl))))))) SB_nil))))
theorem D_equal (V : Ev hB C mg mb K) : SB prog w hB C n (methScope PySem.Challenge.pw_pg0147_02 2 4).names (methBody PySem.Challenge.pw_pg0147_02 2 4) B_equal :=
  (SB_cons (SS_ret (SE_cmp Cmp_eqT (SE_attr V.X V.KX (by rfl) (SE_loc rfl (.inl rfl) (by rfl) (by rfl))) (SE_attr V.X V.KX (by rfl) (SE_loc rfl (.inl rfl) (by rfl) (by rfl))) (by with_unfolding_all rfl))) SB_nil)
theorem D_not_equal_witness (V : Ev hB C mg mb K) {a_indent_level : Addr} (M_indent_level : Mt K C hB "indent_level" a_indent_level) (H_indent_level : FK prog w hB C n (.ref a_indent_level) F_indent_level) {a_longest_run_of_spaces : Addr} (M_longest_run_of_spaces : Mt K C hB "longest_run_of_spaces" a_longest_run_of_spaces) (H_longest_run_of_spaces : FK prog w hB C n (.ref a_longest_run_of_spaces) F_longest_run_of_spaces) : SB prog w hB C n (methScope PySem.Challenge.pw_pg0147_02 2 5).names (methBody PySem.Challenge.pw_pg0147_02 2 5) B_not_equal_witness :=
  (SB_cons (SS_nm (.inl rfl) (SE_bin Op_add (SE_b2 V.Gl (V.bi 9 5 rfl rfl (by rfl)) (.inl ⟨_, rfl⟩) F2_max (methF V M_longest_run_of_spaces (by decide) H_longest_run_of_spaces (SE_loc rfl (.inl rfl) (by rfl) (by rfl)) trivial (by decide) (fun _ => rfl) (by rfl) (fun _ => rfl)) (methF V M_longest_run_of_spaces (by decide) H_longest_run_of_spaces (SE_loc rfl (.inl rfl) (by rfl) (by rfl)) trivial (by decide) (fun _ => rfl) (by rfl) (fun _ => rfl)) (fun _ => rfl)) SE_int) (fun _ => rfl))
  (SB_cons (SS_nm (.inl rfl) (SE_lst trivial (fun _ => rfl) (by decide)) (fun _ => rfl))
  (SB_cons (SS_for ⟨_, _, rfl, (.inl rfl)⟩ (SI_range V.Gl (V.bi 1 6 rfl rfl (by rfl)) ⟨SE_int, (SE_bin Op_add (SE_loc rfl (.inl rfl) (by rfl) (by rfl)) SE_int), trivial⟩ (fun _ => rfl)) (SB_cons (SS_if (ST_cmp Cmp_ne (methF V M_indent_level (by decide) H_indent_level (SE_loc rfl (.inl rfl) (by rfl) (by rfl)) ⟨(SE_loc rfl (.inl rfl) (by rfl) (by rfl)), trivial⟩ (by decide) (fun _ => rfl) (by rfl) (fun _ => rfl)) (methF V M_indent_level (by decide) H_indent_level (SE_loc rfl (.inl rfl) (by rfl) (by rfl)) ⟨(SE_loc rfl (.inl rfl) (by rfl) (by rfl)), trivial⟩ (by decide) (fun _ => rfl) (by rfl) (fun _ => rfl)) (by with_unfolding_all rfl)) (SB_cons (SS_exp (SE_meth M_append (SE_loc rfl (.inl rfl) (by rfl) (by rfl)) (SE_tup ⟨(SE_loc rfl (.inl rfl) (by rfl) (by rfl)), (methF V M_indent_level (by decide) H_indent_level (SE_loc rfl (.inl rfl) (by rfl) (by rfl)) ⟨(SE_loc rfl (.inl rfl) (by rfl) (by rfl)), trivial⟩ (by decide) (fun _ => rfl) (by rfl) (fun _ => rfl)), (methF V M_indent_level (by decide) H_indent_level (SE_loc rfl (.inl rfl) (by rfl) (by rfl)) ⟨(SE_loc rfl (.inl rfl) (by rfl) (by rfl)), trivial⟩ (by decide) (fun _ => rfl) (by rfl) (fun _ => rfl)), trivial⟩ (fun _ => rfl) (by decide)) (fun _ => rfl) (by rfl) (fun _ => rfl)) (fun _ => rfl)) SB_nil) SB_nil) SB_nil) (fun _ _ => rfl))
  (SB_cons (SS_ret (SE_loc rfl (.inl rfl) (by rfl) (by rfl))) SB_nil))))
theorem D_not_less_witness (V : Ev hB C mg mb K) {a_indent_level : Addr} (M_indent_level : Mt K C hB "indent_level" a_indent_level) (H_indent_level : FK prog w hB C n (.ref a_indent_level) F_indent_level) {a_longest_run_of_spaces : Addr} (M_longest_run_of_spaces : Mt K C hB "longest_run_of_spaces" a_longest_run_of_spaces) (H_longest_run_of_spaces : FK prog w hB C n (.ref a_longest_run_of_spaces) F_longest_run_of_spaces) : SB prog w hB C n (methScope PySem.Challenge.pw_pg0147_02 2 7).names (methBody PySem.Challenge.pw_pg0147_02 2 7) B_not_less_witness :=
  (SB_cons (SS_nm (.inl rfl) (SE_bin Op_add (SE_b2 V.Gl (V.bi 9 5 rfl rfl (by rfl)) (.inl ⟨_, rfl⟩) F2_max (methF V M_longest_run_of_spaces (by decide) H_longest_run_of_spaces (SE_loc rfl (.inl rfl) (by rfl) (by rfl)) trivial (by decide) (fun _ => rfl) (by rfl) (fun _ => rfl)) (methF V M_longest_run_of_spaces (by decide) H_longest_run_of_spaces (SE_loc rfl (.inl rfl) (by rfl) (by rfl)) trivial (by decide) (fun _ => rfl) (by rfl) (fun _ => rfl)) (fun _ => rfl)) SE_int) (fun _ => rfl))
  (SB_cons (SS_nm (.inl rfl) (SE_lst trivial (fun _ => rfl) (by decide)) (fun _ => rfl))
  (SB_cons (SS_for ⟨_, _, rfl, (.inl rfl)⟩ (SI_range V.Gl (V.bi 1 6 rfl rfl (by rfl)) ⟨SE_int, (SE_bin Op_add (SE_loc rfl (.inl rfl) (by rfl) (by rfl)) SE_int), trivial⟩ (fun _ => rfl)) (SB_cons (SS_if (ST_cmp Cmp_ge (methF V M_indent_level (by decide) H_indent_level (SE_loc rfl (.inl rfl) (by rfl) (by rfl)) ⟨(SE_loc rfl (.inl rfl) (by rfl) (by rfl)), trivial⟩ (by decide) (fun _ => rfl) (by rfl) (fun _ => rfl)) (methF V M_indent_level (by decide) H_indent_level (SE_loc rfl (.inl rfl) (by rfl) (by rfl)) ⟨(SE_loc rfl (.inl rfl) (by rfl) (by rfl)), trivial⟩ (by decide) (fun _ => rfl) (by rfl) (fun _ => rfl)) (by with_unfolding_all rfl)) (SB_cons (SS_exp (SE_meth M_append (SE_loc rfl (.inl rfl) (by rfl) (by rfl)) (SE_tup ⟨(SE_loc rfl (.inl rfl) (by rfl) (by rfl)), (methF V M_indent_level (by decide) H_indent_level (SE_loc rfl (.inl rfl) (by rfl) (by rfl)) ⟨(SE_loc rfl (.inl rfl) (by rfl) (by rfl)), trivial⟩ (by decide) (fun _ => rfl) (by rfl) (fun _ => rfl)), (methF V M_indent_level (by decide) H_indent_level (SE_loc rfl (.inl rfl) (by rfl) (by rfl)) ⟨(SE_loc rfl (.inl rfl) (by rfl) (by rfl)), trivial⟩ (by decide) (fun _ => rfl) (by rfl) (fun _ => rfl)), trivial⟩ (fun _ => rfl) (by decide)) (fun _ => rfl) (by rfl) (fun _ => rfl)) (fun _ => rfl)) SB_nil) SB_nil) SB_nil) (fun _ _ => rfl))
  (SB_cons (SS_ret (SE_loc rfl (.inl rfl) (by rfl) (by rfl))) SB_nil))))
theorem D_byteswap (V : Ev hB C mg mb K) : SBI prog w hB C n (scopeAt PySem.Challenge.pw_pg0147_02 4).names (bodyAt PySem.Challenge.pw_pg0147_02 4) B_byteswap :=
  (SBI_cons (SSI_nm (.inl rfl) (SEI_barr V.Gl (V.bi 3 5 rfl rfl (by rfl)) (SE_b1 V.Gl (V.bi 0 6 rfl rfl (by rfl)) (.inl ⟨_, rfl⟩) F1_len (SE_loc rfl (.inl rfl) (by rfl) (by rfl)) (fun _ => rfl)) (fun _ => rfl)) (fun _ => rfl))
  (SBI_cons (.of (SS_for ⟨_, _, rfl, (.inl rfl)⟩ (SI_range V.Gl (V.bi 1 7 rfl rfl (by rfl)) ⟨SE_int, (SE_b1 V.Gl (V.bi 0 6 rfl rfl (by rfl)) (.inl ⟨_, rfl⟩) F1_len (SE_loc rfl (.inl rfl) (by rfl) (by rfl)) (fun _ => rfl)), (SE_loc rfl (.inl rfl) (by rfl) (by rfl)), trivial⟩ (fun _ => rfl)) (SB_cons (SS_for ⟨_, _, rfl, (.inl rfl)⟩ (SI_range V.Gl (V.bi 1 7 rfl rfl (by rfl)) ⟨(SE_loc rfl (.inl rfl) (by rfl) (by rfl)), trivial⟩ (fun _ => rfl)) (SB_cons (SS_sb (SE_sub (SE_loc rfl (.inl rfl) (by rfl) (by rfl)) (SE_bin Op_add (SE_loc rfl (.inl rfl) (by rfl) (by rfl)) (SE_loc rfl (.inl rfl) (by rfl) (by rfl))) (fun _ _ => rfl)) (SE_loc rfl (.inl rfl) (by rfl) (by rfl)) (SE_bin Op_sub (SE_bin Op_sub (SE_bin Op_add (SE_loc rfl (.inl rfl) (by rfl) (by rfl)) (SE_loc rfl (.inl rfl) (by rfl) (by rfl))) SE_int) (SE_loc rfl (.inl rfl) (by rfl) (by rfl))) (fun _ => rfl)) SB_nil) (fun _ _ => rfl)) SB_nil) (fun _ _ => rfl)))
  (SBI_cons (.of (SS_ret (SE_b1 V.Gl (V.bi 2 8 rfl rfl (by rfl)) (.inr ⟨_, rfl⟩) F1_bytes (SE_loc rfl (.inl rfl) (by rfl) (by rfl)) (fun _ => rfl)))) (.of SB_nil))))
theorem D_law_leads (V : Ev hB C mg mb K) : SB prog w hB C n (scopeAt PySem.Challenge.pw_pg0147_02 6).names (bodyAt PySem.Challenge.pw_pg0147_02 6) B_law_leads :=
  (SB_cons (SS_tp ⟨⟨_, _, rfl, (.inl rfl)⟩, ⟨_, _, rfl, (.inl rfl)⟩, trivial⟩ (SE_tup ⟨(SE_str (by rfl)), (SE_str (by rfl)), trivial⟩ (fun _ => rfl) (by decide)) (fun _ => rfl) (fun _ k => swaps_fold k (i := 1) (j := 2) rfl rfl (by rfl) (by decide) (by rfl) (by rfl)))
  (SB_cons (SS_for ⟨_, _, rfl, (.inl rfl)⟩ (SI_range V.Gl (V.bi 1 5 rfl rfl (by rfl)) ⟨SE_int, trivial⟩ (fun _ => rfl)) (SB_cons (SS_for ⟨_, _, rfl, (.inl rfl)⟩ (SI_range V.Gl (V.bi 1 5 rfl rfl (by rfl)) ⟨(SE_loc rfl (.inl rfl) (by rfl) (by rfl)), trivial⟩ (fun _ => rfl)) (SB_cons (SS_augN (.inl rfl) In_add (SE_bin Op_add (SE_bin Op_mul (SE_str (by rfl)) (SE_sub (SE_loc rfl (.inl rfl) (by rfl) (by rfl)) (SE_loc rfl (.inl rfl) (by rfl) (by rfl)) (fun _ _ => rfl))) (SE_str (by rfl))))
  (SB_cons (SS_augN (.inl rfl) In_add (SE_bin Op_add (SE_bin Op_add (SE_bin Op_add (SE_bin Op_mul (SE_str (by rfl)) (SE_sub (SE_loc rfl (.inl rfl) (by rfl) (by rfl)) (SE_loc rfl (.inl rfl) (by rfl) (by rfl)) (fun _ _ => rfl))) (SE_str (by rfl))) (SE_bin Op_mul (SE_str (by rfl)) (SE_bin Op_sub (SE_sub (SE_loc rfl (.inl rfl) (by rfl) (by rfl)) (SE_loc rfl (.inl rfl) (by rfl) (by rfl)) (fun _ _ => rfl)) (SE_sub (SE_loc rfl (.inl rfl) (by rfl) (by rfl)) (SE_loc rfl (.inl rfl) (by rfl) (by rfl)) (fun _ _ => rfl))))) (SE_str (by rfl)))) SB_nil)) (fun _ _ => rfl)) SB_nil) (fun _ _ => rfl))
  (SB_cons (SS_ret (SE_tup ⟨(SE_loc rfl (.inl rfl) (by rfl) (by rfl)), (SE_loc rfl (.inl rfl) (by rfl) (by rfl)), trivial⟩ (fun _ => rfl) (by decide))) SB_nil)))
theorem D_law_round (V : Ev hB C mg mb K) {a_byteswap : Addr} (G_byteswap : Fn hB mg "_byteswap" a_byteswap) (H_byteswap : FKI prog w hB C n (.ref a_byteswap) F_byteswap) : SBI prog w hB C n (scopeAt PySem.Challenge.pw_pg0147_02 7).names (bodyAt PySem.Challenge.pw_pg0147_02 7) B_law_round :=
  (SBI_cons (.of (SS_nm (.inl rfl) (SE_lst trivial (fun _ => rfl) (by decide)) (fun _ => rfl)))
  (SBI_cons (.of (SS_for ⟨_, _, rfl, (.inl rfl)⟩ (SI_range V.Gl (V.bi 1 7 rfl rfl (by rfl)) ⟨(SE_b1 V.Gl (V.bi 0 8 rfl rfl (by rfl)) (.inl ⟨_, rfl⟩) F1_len (SE_loc rfl (.inr (.inl rfl)) (by rfl) (by rfl)) (fun _ => rfl)), trivial⟩ (fun _ => rfl)) (SB_cons (SS_if (ST_and ⟨(ST_cmp Cmp_inT (SE_bin Op_mod (SE_loc rfl (.inl rfl) (by rfl) (by rfl)) SE_int) (SE_tup ⟨SE_int, SE_int, trivial⟩ (fun _ => rfl) (by decide)) (by with_unfolding_all rfl)), (ST_cmp Cmp_lt (SE_bin Op_mul (SE_bin Op_sub (SE_sub (SE_loc rfl (.inr (.inl rfl)) (by rfl) (by rfl)) (SE_bin Op_add (SE_loc rfl (.inl rfl) (by rfl) (by rfl)) SE_int) (fun _ _ => rfl)) (SE_sub (SE_loc rfl (.inr (.inl rfl)) (by rfl) (by rfl)) (SE_loc rfl (.inl rfl) (by rfl) (by rfl)) (fun _ _ => rfl))) (SE_loc rfl (.inl rfl) (by rfl) (by rfl))) SE_int (by with_unfolding_all rfl)), trivial⟩) (SB_cons (SS_exp (SE_meth M_append (SE_loc rfl (.inl rfl) (by rfl) (by rfl)) (SE_loc rfl (.inl rfl) (by rfl) (by rfl)) (fun _ => rfl) (by rfl) (fun _ => rfl)) (fun _ => rfl)) SB_nil) SB_nil) SB_nil) (fun _ _ => rfl)))
  (SBI_cons (SSI_nm (.inl rfl) (callI V 9 G_byteswap rfl (by rfl) H_byteswap ⟨(SE_meth M_join SE_byt (SE_comp (CompOK.one (CNm.of (by decide +kernel)) rfl ⟨_, _, rfl, (.inl rfl)⟩ (SI_e (SE_loc rfl (.inl rfl) (by rfl) (by rfl))) (fun _ => (TE_nil (EM_emit (SE_slc (SE_loc rfl (.inr (.inr rfl)) (by rfl) (by rfl)) (SE_loc rfl (.inl rfl) (by rfl) (by rfl)) (SE_bin Op_add (SE_loc rfl (.inl rfl) (by rfl) (by rfl)) SE_int))))) (fun _ => (Nx_nil Nx_gEmit)) (fun _ _ => rfl))) (fun _ => rfl) (by rfl) (fun _ => rfl)), SE_int, trivial⟩ (by simp) (fun _ => rfl)) (fun _ => rfl))
  (SBI_cons (.of (SS_nm (.inl rfl) (SE_b1 V.Gl (V.bi 7 10 rfl rfl (by rfl)) (.inr ⟨_, rfl⟩) F1_listB (SE_loc rfl (.inr (.inl rfl)) (by rfl) (by rfl)) (fun _ => rfl)) (fun _ => rfl)))
  (SBI_cons (.of (SS_for ⟨_, _, _, rfl, ⟨⟨_, _, rfl, (.inl rfl)⟩, ⟨_, _, rfl, (.inl rfl)⟩, trivial⟩⟩ (SI_enum V.Gl (V.bi 10 11 rfl rfl (by rfl)) (SE_loc rfl (.inl rfl) (by rfl) (by rfl)) (fun _ => rfl)) (SB_cons (SS_sb (SE_sub (SE_loc rfl (.inl rfl) (by rfl) (by rfl)) (SE_bin Op_mul SE_int (SE_loc rfl (.inl rfl) (by rfl) (by rfl))) (fun _ _ => rfl)) (SE_loc rfl (.inl rfl) (by rfl) (by rfl)) (SE_loc rfl (.inl rfl) (by rfl) (by rfl)) (fun _ => rfl))
  (SB_cons (SS_sb (SE_sub (SE_loc rfl (.inl rfl) (by rfl) (by rfl)) (SE_bin Op_add (SE_bin Op_mul SE_int (SE_loc rfl (.inl rfl) (by rfl) (by rfl))) SE_int) (fun _ _ => rfl)) (SE_loc rfl (.inl rfl) (by rfl) (by rfl)) (SE_bin Op_add (SE_loc rfl (.inl rfl) (by rfl) (by rfl)) SE_int) (fun _ => rfl)) SB_nil)) (fun _ _ => rfl)))
  (SBI_cons (SSI_ret (SEI_tup2 (SE_loc rfl (.inl rfl) (by rfl) (by rfl)) (callI V 9 G_byteswap rfl (by rfl) H_byteswap ⟨(SE_b1 V.Gl (V.bi 2 12 rfl rfl (by rfl)) (.inr ⟨_, rfl⟩) F1_bytes (SE_loc rfl (.inl rfl) (by rfl) (by rfl)) (fun _ => rfl)), SE_int, trivial⟩ (by simp) (fun _ => rfl)) (fun _ => rfl))) (.of SB_nil)))))))
theorem D_law (V : Ev hB C mg mb K) (HC : mg "Whitespace" = some (.ref C)) (HKp : keepIn K (.ref C) = true) (H_init : FK prog w hB C n (.ref C) F_init) {a_law_leads : Addr} (G_law_leads : Fn hB mg "_law_leads" a_law_leads) (H_law_leads : FK prog w hB C n (.ref a_law_leads) F_law_leads) {a_law_round : Addr} (G_law_round : Fn hB mg "_law_round" a_law_round) (H_law_round : FKI prog w hB C n (.ref a_law_round) F_law_round) {a_equal : Addr} (M_equal : Mt K C hB "equal" a_equal) (H_equal : FK prog w hB C n (.ref a_equal) F_equal) {a_not_equal_witness : Addr} (M_not_equal_witness : Mt K C hB "not_equal_witness" a_not_equal_witness) (H_not_equal_witness : FK prog w hB C n (.ref a_not_equal_witness) F_not_equal_witness) {a_not_less_witness : Addr} (M_not_less_witness : Mt K C hB "not_less_witness" a_not_less_witness) (H_not_less_witness : FK prog w hB C n (.ref a_not_less_witness) F_not_less_witness) : SBI prog w hB C n (scopeAt PySem.Challenge.pw_pg0147_02 8).names (bodyAt PySem.Challenge.pw_pg0147_02 8) B_law :=
  (SBI_cons (.of (SS_nmc (CompOK.one (CNm.of (by decide +kernel)) rfl ⟨_, _, rfl, (.inl rfl)⟩ (SI_e (SE_slc (SE_loc rfl (.inl rfl) (by rfl) (by rfl)) trivial SE_int)) (fun _ => (TE_nil (EM_emit (SE_bin Op_mod (SE_b1 V.Gl (V.bi 6 2 rfl rfl (by rfl)) (.inr ⟨_, rfl⟩) F1_int (SE_loc rfl (.inl rfl) (by rfl) (by rfl)) (fun _ => rfl)) (SE_bin Op_pow SE_int SE_int))))) (fun _ => (Nx_nil Nx_gEmit)) (fun _ _ => rfl)) rfl (by rfl) (by decide +kernel)))
  (SBI_cons (.of (SS_nm (.inr rfl) (SE_b1 V.Gl (V.bi 4 15 rfl rfl (by rfl)) (.inl ⟨_, rfl⟩) F1_sorted (SE_comp (CompOK.one (CNm.of (by decide +kernel)) rfl ⟨_, _, rfl, (.inl rfl)⟩ (SI_e (SE_bin Op_add (SE_loc rfl (.inl rfl) (by rfl) (by rfl)) (SE_slc (SE_lst ⟨SE_int, SE_int, SE_int, SE_int, SE_int, trivial⟩ (fun _ => rfl) (by decide)) (SE_b1 V.Gl (V.bi 0 16 rfl rfl (by rfl)) (.inl ⟨_, rfl⟩) F1_len (SE_loc rfl (.inl rfl) (by rfl) (by rfl)) (fun _ => rfl)) trivial))) (fun _ => (TE_nil (EM_emit (SE_bin Op_mod (SE_loc rfl (.inl rfl) (by rfl) (by rfl)) SE_int)))) (fun _ => (Nx_nil Nx_gEmit)) (fun _ _ => rfl))) (fun _ => rfl)) (fun _ => rfl)))
  (SBI_cons (.of (SS_nm (.inl rfl) (SE_b2 V.Gl (V.bi 1 17 rfl rfl (by rfl)) (.inr ⟨_, rfl⟩) F2_range SE_int (SE_bin Op_add (SE_sub (SE_loc rfl (.inr (.inl rfl)) (by rfl) (by rfl)) SE_int (fun _ _ => rfl)) SE_int) (fun _ => rfl)) (fun _ => rfl)))
  (SBI_cons (.of (SS_nmc (CompOK.one (CNm.of (by decide +kernel)) rfl ⟨_, _, rfl, (.inr rfl)⟩ (SI_e (SE_loc rfl (.inl rfl) (by rfl) (by rfl))) (fun _ => (TE_nil (EM_emit (SE_comp (CompOK.one (CNm.of (by decide +kernel)) rfl ⟨_, _, rfl, (.inl rfl)⟩ (SI_e (SE_loc rfl (.inr (.inr rfl)) (by rfl) (by rfl))) (fun _ => (TE_nil (EM_emit (SE_bin Op_mod (SE_loc rfl (.inl rfl) (by rfl) (by rfl)) (SE_loc rfl (.inr (.inr rfl)) (by rfl) (by rfl)))))) (fun _ => (Nx_nil Nx_gEmit)) (fun _ _ => rfl)))))) (fun _ => (Nx_nil Nx_gEmit)) (fun _ _ => rfl)) rfl (by rfl) (by decide +kernel)))
  (SBI_cons (.of (SS_tp ⟨⟨_, _, rfl, (.inl rfl)⟩, ⟨_, _, rfl, (.inr rfl)⟩, trivial⟩ (SE_tup ⟨(SE_meth M_join SE_byt (SE_comp (CompOK.one (CNm.of (by decide +kernel)) rfl ⟨_, _, rfl, (.inl rfl)⟩ (SI_e (SE_loc rfl (.inl rfl) (by rfl) (by rfl))) (fun _ => (TE_nil (EM_emit (SE_b1 V.Gl (V.bi 2 2 rfl rfl (by rfl)) (.inr ⟨_, rfl⟩) F1_bytes (SE_loc rfl (.inl rfl) (by rfl) (by rfl)) (fun _ => rfl))))) (fun _ => (Nx_nil Nx_gEmit)) (fun _ _ => rfl))) (fun _ => rfl) (by rfl) (fun _ => rfl)), (SE_lst trivial (fun _ => rfl) (by decide)), trivial⟩ (fun _ => rfl) (by decide)) (fun _ => rfl) (fun _ k => swaps_cell k (i := 6) (j := 7) rfl rfl (by rfl))))
  (SBI_cons (SSI_for ⟨_, _, rfl, (.inl rfl)⟩ (SI_range V.Gl (V.bi 1 17 rfl rfl (by rfl)) ⟨SE_int, trivial⟩ (fun _ => rfl)) (SBI_cons (SSI_tp ⟨⟨_, _, rfl, (.inl rfl)⟩, ⟨_, _, rfl, (.inl rfl)⟩, trivial⟩ (callI V 18 G_law_round rfl (by rfl) H_law_round ⟨(SE_loc rfl (.inl rfl) (by rfl) (by rfl)), (SE_bin Op_sub SE_int (SE_bin Op_mul SE_int (SE_bin Op_mod (SE_loc rfl (.inl rfl) (by rfl) (by rfl)) SE_int))), trivial⟩ (by simp) (fun _ => rfl)) (fun _ => rfl) (fun _ _ => rfl))
  (SBI_cons (.of (SS_augL (.inr rfl) (SE_comp (CompOK.one (CNm.of (by decide +kernel)) rfl ⟨_, _, rfl, (.inl rfl)⟩ (SI_e (SE_loc rfl (.inl rfl) (by rfl) (by rfl))) (fun _ => (TE_nil (EM_emit (SE_bin Op_add (SE_bin Op_div (SE_loc rfl (.inl rfl) (by rfl) (by rfl)) SE_int) SE_int)))) (fun _ => (Nx_nil Nx_gEmit)) (fun _ _ => rfl))))) (.of SB_nil))) (fun _ _ => rfl))
  (SBI_cons (.of (SS_if (ST_or ⟨(ST_cmp Cmp_ne (SE_loc rfl (.inl rfl) (by rfl) (by rfl)) (SE_meth M_join SE_byt (SE_comp (CompOK.one (CNm.of (by decide +kernel)) rfl ⟨_, _, rfl, (.inl rfl)⟩ (SI_e (SE_loc rfl (.inl rfl) (by rfl) (by rfl))) (fun _ => (TE_nil (EM_emit (SE_b1 V.Gl (V.bi 2 2 rfl rfl (by rfl)) (.inr ⟨_, rfl⟩) F1_bytes (SE_rev (SE_b1 V.Gl (V.bi 4 3 rfl rfl (by rfl)) (.inl ⟨_, rfl⟩) F1_sorted (SE_loc rfl (.inl rfl) (by rfl) (by rfl)) (fun _ => rfl))) (fun _ => rfl))))) (fun _ => (Nx_nil Nx_gEmit)) (fun _ _ => rfl))) (fun _ => rfl) (by rfl) (fun _ => rfl)) (by with_unfolding_all rfl)), (ST_not (ST_val (SE_isb V.Gl (V.bi 11 19 rfl rfl (by rfl)) (V.bi 2 20 rfl rfl (by rfl)) (SE_loc rfl (.inl rfl) (by rfl) (by rfl)) (fun _ => rfl)) (fun _ _ => rfl))), trivial⟩) (SB_cons (SS_ret SE_bool) SB_nil) SB_nil))
  (SBI_cons (.of (SS_nm (.inl rfl) (SE_lst trivial (fun _ => rfl) (by decide)) (fun _ => rfl)))
  (SBI_cons (.of (SS_for ⟨_, _, rfl, (.inr rfl)⟩ (SI_e (SE_loc rfl (.inl rfl) (by rfl) (by rfl))) (SB_cons (SS_nm (.inl rfl) (SE_bin Op_mul (SE_loc rfl (.inr (.inl rfl)) (by rfl) (by rfl)) (SE_b1 V.Gl (V.bi 5 21 rfl rfl (by rfl)) (.inl ⟨_, rfl⟩) F1_sum (SE_comp (CompOK.one (CNm.of (by decide +kernel)) rfl ⟨_, _, _, rfl, ⟨⟨_, _, rfl, (.inl rfl)⟩, ⟨_, _, rfl, (.inl rfl)⟩, trivial⟩⟩ (SI_enum V.Gl (V.bi 10 22 rfl rfl (by rfl)) (SE_loc rfl (.inr (.inl rfl)) (by rfl) (by rfl)) (fun _ => rfl)) (fun _ => (TE_nil (EM_emit (SE_bin Op_mul (SE_loc rfl (.inl rfl) (by rfl) (by rfl)) (SE_bin Op_add (SE_bin Op_div (SE_loc rfl (.inl rfl) (by rfl) (by rfl)) (SE_loc rfl (.inr (.inr rfl)) (by rfl) (by rfl))) SE_int))))) (fun _ => (Nx_nil Nx_gEmit)) (fun _ _ => rfl))) (fun _ => rfl))) (fun _ => rfl))
  (SB_cons (SS_exp (SE_meth M_append (SE_loc rfl (.inl rfl) (by rfl) (by rfl)) (SE_tup ⟨(SE_loc rfl (.inr (.inl rfl)) (by rfl) (by rfl)), (SE_loc rfl (.inl rfl) (by rfl) (by rfl)), (SE_bin Op_sub (SE_loc rfl (.inl rfl) (by rfl) (by rfl)) (SE_bin Op_mul (SE_loc rfl (.inr (.inl rfl)) (by rfl) (by rfl)) (SE_meth M_count (SE_loc rfl (.inr (.inl rfl)) (by rfl) (by rfl)) (SE_loc rfl (.inr (.inl rfl)) (by rfl) (by rfl)) (fun _ => rfl) (by rfl) (fun _ => rfl)))), trivial⟩ (fun _ => rfl) (by decide)) (fun _ => rfl) (by rfl) (fun _ => rfl)) (fun _ => rfl)) SB_nil)) (fun _ _ => rfl)))
  (SBI_cons (.of (SS_nm (.inl rfl) (callF V 23 G_law_leads rfl (by rfl) H_law_leads ⟨(SE_loc rfl (.inr (.inl rfl)) (by rfl) (by rfl)), trivial⟩ (by simp) (fun _ => rfl)) (fun _ => rfl)))
  (SBI_cons (.of (SS_tp2 (.inl rfl) (.inl rfl) (by decide) (SE_tup ⟨(newF V 24 HC HKp rfl (by rfl) H_init (SE_bin Op_add (SE_sub (SE_loc rfl (.inl rfl) (by rfl) (by rfl)) SE_int (fun _ _ => rfl)) (SE_str (by rfl))) (fun _ => rfl)), (newF V 24 HC HKp rfl (by rfl) H_init (SE_bin Op_add (SE_sub (SE_loc rfl (.inl rfl) (by rfl) (by rfl)) SE_int (fun _ _ => rfl)) (SE_str (by rfl))) (fun _ => rfl)), trivial⟩ (fun _ => rfl) (by decide)) (fun _ => rfl) (fun _ k => swaps_two k (i := 13) (j := 14) rfl rfl (by rfl) (by decide) (by rfl) (by rfl) (by rfl))))
  (SBI_cons (.of (SS_if (ST_or ⟨(ST_cmp Cmp_ne (methF V M_not_less_witness (by decide) H_not_less_witness (SE_loc rfl (.inl rfl) (by rfl) (by rfl)) ⟨(SE_loc rfl (.inl rfl) (by rfl) (by rfl)), trivial⟩ (by decide) (fun _ => rfl) (by rfl) (fun _ => rfl)) (SE_loc rfl (.inl rfl) (by rfl) (by rfl)) (by with_unfolding_all rfl)), (ST_cmp Cmp_ne (methF V M_equal (by decide) H_equal (SE_loc rfl (.inl rfl) (by rfl) (by rfl)) ⟨(SE_loc rfl (.inl rfl) (by rfl) (by rfl)), trivial⟩ (by decide) (fun _ => rfl) (by rfl) (fun _ => rfl)) (SE_cmp Cmp_eq (SE_loc rfl (.inr (.inl rfl)) (by rfl) (by rfl)) (SE_lst trivial (fun _ => rfl) (by decide)) (by with_unfolding_all rfl)) (by with_unfolding_all rfl)), trivial⟩) (SB_cons (SS_ret SE_bool) SB_nil) SB_nil))
  (SBI_cons (.of (SS_if (ST_cmp Cmp_ne (methF V M_not_less_witness (by decide) H_not_less_witness (SE_loc rfl (.inl rfl) (by rfl) (by rfl)) ⟨(SE_loc rfl (.inl rfl) (by rfl) (by rfl)), trivial⟩ (by decide) (fun _ => rfl) (by rfl) (fun _ => rfl)) (SE_comp (CompOK.one (CNm.of (by decide +kernel)) rfl ⟨_, _, rfl, (.inl rfl)⟩ (SI_e (SE_loc rfl (.inl rfl) (by rfl) (by rfl))) (fun _ => (TE_one (ST_cmp Cmp_nin (SE_sub (SE_loc rfl (.inl rfl) (by rfl) (by rfl)) SE_int (fun _ _ => rfl)) (SE_loc rfl (.inr (.inr rfl)) (by rfl) (by rfl)) (by with_unfolding_all rfl)) (EM_emit (SE_loc rfl (.inl rfl) (by rfl) (by rfl))))) (fun _ => (Nx_one Nx_gEmit)) (fun _ _ => rfl))) (by with_unfolding_all rfl)) (SB_cons (SS_ret SE_bool) SB_nil) SB_nil))
  (SBI_cons (.of (SS_ret (SE_cmp Cmp_eq (methF V M_not_equal_witness (by decide) H_not_equal_witness (SE_loc rfl (.inl rfl) (by rfl) (by rfl)) ⟨(SE_loc rfl (.inl rfl) (by rfl) (by rfl)), trivial⟩ (by decide) (fun _ => rfl) (by rfl) (fun _ => rfl)) (SE_comp (CompOK.one (CNm.of (by decide +kernel)) rfl ⟨_, _, rfl, (.inl rfl)⟩ (SI_e (SE_loc rfl (.inl rfl) (by rfl) (by rfl))) (fun _ => (TE_one (ST_cmp Cmp_in (SE_sub (SE_loc rfl (.inl rfl) (by rfl) (by rfl)) SE_int (fun _ _ => rfl)) (SE_loc rfl (.inr (.inr rfl)) (by rfl) (by rfl)) (by with_unfolding_all rfl)) (EM_emit (SE_loc rfl (.inl rfl) (by rfl) (by rfl))))) (fun _ => (Nx_one Nx_gEmit)) (fun _ _ => rfl))) (by with_unfolding_all rfl)))) (.of SB_nil)))))))))))))))
end Mine.L2
end

section
set_option maxRecDepth 100000
set_option maxHeartbeats 4000000
namespace Mine.L2
open PySem PySem.W PySem.Calls PyProof.Rows Mine
abbrev PW := PySem.Challenge.pw_pg0147_02
/-- all that the law calls -/
theorem chain {prog : Program} {w : World} {hB : Heap} {C : Addr} {mg mb : Str → Option Value} {K : Frag} {aI aLo aIn aEq aWi aLe aBs aLd aRo aLaw : Addr} {mc : Value} {tS tT : Tok} (V : Ev hB C mg mb K)
    (HC : mg "Whitespace" = some (.ref C)) (HKp : keepIn K (.ref C) = true) (hr : readsIn K C mc = true) (hS : findCls K (.ref C) mc "S" = some (.val (.str ⟨#[32]⟩ tS))) (hT : findCls K (.ref C) mc "T" = some (.val (.str ⟨#[9]⟩ tT)))
    (dI : DF hB aI (methBody PW 2 1) (methScope PW 2 1) ["self", "ws"]) (fI : findIn K (.ref C) "__init__" = some (some (.ref aI))) (tI : typeIn K (.ref aI) = some (.type "function"))
    (dLo : DF hB aLo (methBody PW 2 2) (methScope PW 2 2) ["self"]) (fLo : findIn K (.ref C) "longest_run_of_spaces" = some (some (.ref aLo))) (tLo : typeIn K (.ref aLo) = some (.type "function"))
    (dIn : DF hB aIn (methBody PW 2 3) (methScope PW 2 3) ["self", "tabsize"]) (fIn : findIn K (.ref C) "indent_level" = some (some (.ref aIn))) (tIn : typeIn K (.ref aIn) = some (.type "function"))
    (dEq : DF hB aEq (methBody PW 2 4) (methScope PW 2 4) ["self", "other"]) (fEq : findIn K (.ref C) "equal" = some (some (.ref aEq))) (tEq : typeIn K (.ref aEq) = some (.type "function"))
    (dWi : DF hB aWi (methBody PW 2 5) (methScope PW 2 5) ["self", "other"]) (fWi : findIn K (.ref C) "not_equal_witness" = some (some (.ref aWi))) (tWi : typeIn K (.ref aWi) = some (.type "function"))
    (dLe : DF hB aLe (methBody PW 2 7) (methScope PW 2 7) ["self", "other"]) (fLe : findIn K (.ref C) "not_less_witness" = some (some (.ref aLe))) (tLe : typeIn K (.ref aLe) = some (.type "function"))
    (dBs : DF hB aBs (bodyAt PW 4) (scopeAt PW 4) ["data", "width"]) (gBs : mg "_byteswap" = some (.ref aBs))
    (dLd : DF hB aLd (bodyAt PW 6) (scopeAt PW 6) ["rising"]) (gLd : mg "_law_leads" = some (.ref aLd))
    (dRo : DF hB aRo (bodyAt PW 7) (scopeAt PW 7) ["page", "sense"]) (gRo : mg "_law_round" = some (.ref aRo))
    (dLaw : DF hB aLaw (bodyAt PW 8) (scopeAt PW 8) ["script"]) : FKI prog w hB C 4 (.ref aLaw) F_law := by
  have HS : ∀ {n : Nat} {nm : List (Str × NameKind)} {np p : Pos} (i : Nat), nm[i]? = some (("Whitespace" : Str), NameKind.globalImplicit) → SE prog w hB C n nm (.Attribute (.Name "Whitespace" np) "S" p) (cVal (.str [32])) :=
    fun i e => SE_cls V.Gl ⟨⟨i, e⟩, HC, by rfl⟩ V.KX hr hS (by rfl) fun φ => ⟨tS, rfl⟩
  have HT : ∀ {n : Nat} {nm : List (Str × NameKind)} {np p : Pos} (i : Nat), nm[i]? = some (("Whitespace" : Str), NameKind.globalImplicit) → SE prog w hB C n nm (.Attribute (.Name "Whitespace" np) "T" p) (cVal (.str [9])) :=
    fun i e => SE_cls V.Gl ⟨⟨i, e⟩, HC, by rfl⟩ V.KX hr hT (by rfl) fun φ => ⟨tT, rfl⟩
  have kI : FK prog w hB C 2 (.ref C) F_init := dI.fkn (n := 0) V fI tI (by decide +kernel) (by rfl) (D_init V HS HT)
  have kLo : FK prog w hB C 1 (.ref aLo) F_longest_run_of_spaces := dLo.fk (n := 0) V (by decide +kernel) (by rfl) (D_longest_run_of_spaces V)
  have kIn : FK prog w hB C 1 (.ref aIn) F_indent_level := dIn.fk (n := 0) V (by decide +kernel) (by rfl) (D_indent_level V)
  have kEq : FK prog w hB C 1 (.ref aEq) F_equal := dEq.fk (n := 0) V (by decide +kernel) (by rfl) (D_equal V)
  have kWi : FK prog w hB C 2 (.ref aWi) F_not_equal_witness := dWi.fk (n := 1) V (by decide +kernel) (by rfl) (D_not_equal_witness V (dIn.mt fIn tIn) kIn (dLo.mt fLo tLo) kLo)
  have kLe : FK prog w hB C 2 (.ref aLe) F_not_less_witness := dLe.fk (n := 1) V (by decide +kernel) (by rfl) (D_not_less_witness V (dIn.mt fIn tIn) kIn (dLo.mt fLo tLo) kLo)
  have kBs : FKI prog w hB C 1 (.ref aBs) F_byteswap := (dBs.fki (n := 0) V (by decide +kernel) (by rfl) (D_byteswap V)).gc
  have kLd : FK prog w hB C 1 (.ref aLd) F_law_leads := dLd.fk (n := 0) V (by decide +kernel) (by rfl) (D_law_leads V)
  have kRo : FKI prog w hB C 2 (.ref aRo) F_law_round := dRo.fki (n := 1) V (by decide +kernel) (by rfl) (D_law_round V (dBs.fn gBs) kBs)
  exact dLaw.fki (n := 3) V (by decide +kernel) (by rfl) (D_law V HC HKp (kI.mono (by decide)) (dLd.fn gLd) (kLd.mono (by decide)) (dRo.fn gRo) (kRo.mono (by decide)) (dEq.mt fEq tEq) (kEq.mono (by decide)) (dWi.mt fWi tWi) (kWi.mono (by decide)) (dLe.mt fLe tLe) (kLe.mono (by decide)))
end Mine.L2
end

section
set_option maxRecDepth 100000
namespace Mine.Pre
open PySem Mine
theorem bnd_mk {α β γ : Type} (a : α) (b : β) (f : α → β → Option γ) : bnd (some (a, b)) f = f a b := rfl
theorem bd1_mk {α γ : Type} (a : α) (f : α → Option γ) : bd1 (some a) f = f a := rfl
theorem cnd_t {α : Type} (x y : α) : cnd true x y = x := rfl
theorem cnd_f {α : Type} (x y : α) : cnd false x y = y := rfl
theorem new_eq (σ : Hp) (o : MO) : new σ o = some (.ref σ.length, σ ++ [o]) := by
  unfold new; rw [frN_eq, frS_eq, len_eq, app_eq]
theorem newL_eq (σ : Hp) (x : List MV) : newL σ x = some (.ref σ.length, σ ++ [.list x]) := by
  unfold newL; rw [frVs_eq, new_eq]
theorem retI_eq (σ : Hp) (i : Int) : retI σ i = some (.int i, σ) := by unfold retI; rw [frI_eq]
theorem retN_eq (σ : Hp) (i : Nat) : retN σ i = some (.int (.ofNat i), σ) := by unfold retN; rw [frN_eq]
theorem chk_eq {α β : Type} {l : List α} (x : Option β) (h : l.length ≤ 1000000) : chk l x = x := by
  unfold chk; rw [cnd_eq, len_eq, if_pos (Nat.ble_eq_true_of_le h)]
theorem setAt_length {α : Type} : ∀ (l : List α) (i : Nat) (v : α), (setAt l i v).length = l.length
  | [], _, _ => rfl
  | _ :: _, 0, _ => rfl
  | a :: r, n + 1, v => congrArg (· + 1) (setAt_length r n v)
theorem setAt_get {α : Type} : ∀ (l : List α) (i : Nat) (v : α), i < l.length → (setAt l i v)[i]? = some v
  | _ :: _, 0, _, _ => rfl
  | a :: r, n + 1, v, h => by
    have := setAt_get r n v (by simpa using h)
    simpa [setAt] using this
theorem setAt_last {α : Type} : ∀ (l : List α) (a v : α), setAt (l ++ [a]) l.length v = l ++ [v]
  | [], _, _ => rfl
  | b :: r, a, v => congrArg (b :: ·) (setAt_last r a v)
theorem getV_setAt {ρ : Lo} {i : Nat} {v : MV} (h : i < ρ.length) : getV (setAt ρ i (some v)) i = some v := by
  unfold getV
  rw [nth_eq, setAt_get _ _ _ h]
theorem capture_length (ρ : Lo) : ∀ cap, (capture ρ cap).length = cap.length
  | [] => rfl
  | none :: r => congrArg (· + 1) (capture_length ρ r)
  | some j :: r => congrArg (· + 1) (capture_length ρ r)
theorem Kx.mut_of {k : Kx} {j : Nat} (h1 : k.n₀ ≤ j) (h2 : memN j k.fz = false) : k.mut j = true := by
  unfold Kx.mut
  rw [Nat.ble_eq_true_of_le h1, cnd_t, h2]
  rfl
theorem memN_cons {j a : Nat} {l : List Nat} (h1 : j ≠ a) (h2 : memN j l = false) : memN j (a :: l) = false := by
  unfold memN
  rw [cnd_eq, if_neg, h2]
  intro h
  exact h1 (Nat.eq_of_beq_eq_true h)
/-- a turn of a comprehension -/
theorem emit_eq {k : Kx} {e : CE} {acc : Nat} {ρ : Lo} {σ₀ : Hp} {l : List MV} {v : MV} (hm : k.mut acc = true) (ha : σ₀.length = acc) (hl : l.length < 1000000)
    (he : e k ρ (σ₀ ++ [.list l]) = some (v, σ₀ ++ [.list l])) : gEmit acc e k ρ (σ₀ ++ [.list l]) = some (.next, ρ, σ₀ ++ [.list (l ++ [v])]) := by
  unfold gEmit
  rw [he, bnd_mk]
  have : appendV k (σ₀ ++ [.list l]) (.ref acc) v = some (.none, σ₀ ++ [.list (l ++ [v])]) := by
    unfold appendV
    dsimp only
    rw [hm, cnd_t]
    have : getO (σ₀ ++ [MO.list l]) acc = some (.list l) := by
      unfold getO; rw [nth_eq, ← ha]; simp
    rw [this]
    dsimp only
    rw [frS_eq, app_eq, chk_eq _ (by simp; omega), setK_eq, ← ha, setAt_last]
  rw [this, bnd_mk]
theorem forP_emit {k : Kx} {e : CE} {acc i : Nat} {α : Type} {u : α → MV} {g : α → MV} {P : Lo → Prop} (hm : k.mut acc = true) (hP : ∀ ρ v, P ρ → P (setAt ρ i v)) (he : ∀ x ρ σ, P ρ → getV ρ i = some (u x) → e k ρ σ = some (g x, σ)) :
    ∀ (xs : List α) (l : List MV) (ρ : Lo) (σ₀ : Hp), P ρ → σ₀.length = acc → i < ρ.length → l.length + xs.length ≤ 1000000 →
    ∃ ρ', forP (gIfs [] (gEmit acc e) k) (.one i) (xs.map u) ρ (σ₀ ++ [.list l]) = some (.next, ρ', σ₀ ++ [.list (l ++ xs.map g)])
  | [], l, ρ, σ₀, _, _, _, _ => ⟨ρ, by simp [forP]⟩
  | x :: xs, l, ρ, σ₀, hp, ha, hi, hl => by
    simp only [List.length_cons] at hl
    obtain ⟨ρ', ih⟩ := forP_emit hm hP he xs (l ++ [g x]) (setAt ρ i (some (u x))) σ₀ (hP _ _ hp) ha (by rw [setAt_length]; exact hi) (by simp; omega)
    refine ⟨ρ', ?_⟩
    show bd1 (bindT _ ρ (.one i) (u x)) (fun ρ => turnOn (gIfs [] (gEmit acc e) k ρ _) (forP (gIfs [] (gEmit acc e) k) (.one i) (xs.map u))) = _
    have : bindT (σ₀ ++ [MO.list l]) ρ (.one i) (u x) = some (setAt ρ i (some (u x))) := by
      show setK ρ i (some (u x)) some = _
      rw [setK_eq]
    rw [this, bd1_mk]
    have := emit_eq (k := k) (ρ := setAt ρ i (some (u x))) hm ha (l := l) (v := g x) (by omega) (he x _ _ (hP _ _ hp) (getV_setAt hi))
    show turnOn (gEmit acc e k _ _) _ = _
    rw [this]
    show forP _ _ _ _ _ = _
    rw [ih]
    simp
/-- a comprehension over known items; P: what its frame keeps -/
theorem cComp_eqP {k : Kx} {e : CE} {i : Nat} {α : Type} {u : α → MV} {g : α → MV} {it : CI} {cap : List (Option Nat)} {ρ : Lo} {σ σ₁ : Hp} {f : Option Nat} {xs : List α} {P : Lo → Prop} (hit : it k ρ σ = some (.plain f (xs.map u), σ₁))
    (hm : (k.still f).mut σ₁.length = true) (h0 : P (capture ρ cap)) (hP : ∀ ρ v, P ρ → P (setAt ρ i v)) (he : ∀ x ρ σ, P ρ → getV ρ i = some (u x) → e (k.still f) ρ σ = some (g x, σ)) (hi : i < cap.length) (hl : xs.length ≤ 1000000) :
    cComp (.one i) it (fun acc => gIfs [] (gEmit acc e)) cap k ρ σ = some (.ref σ₁.length, σ₁ ++ [.list (xs.map g)]) := by
  unfold cComp
  rw [hit, bnd_mk, frN_eq, len_eq, frS_eq, app_eq, frS_eq]
  obtain ⟨ρ', h⟩ := forP_emit hm hP he xs [] (capture ρ cap) σ₁ h0 rfl (by rw [capture_length]; exact hi) (by simpa using hl)
  show nxtO (forP _ _ _ _ _) _ = _
  rw [h]
  rfl
theorem cComp_eq {k : Kx} {e : CE} {i : Nat} {α : Type} {u : α → MV} {g : α → MV} {it : CI} {cap : List (Option Nat)} {ρ : Lo} {σ σ₁ : Hp} {f : Option Nat} {xs : List α} (hit : it k ρ σ = some (.plain f (xs.map u), σ₁))
    (hm : (k.still f).mut σ₁.length = true) (he : ∀ x ρ σ, getV ρ i = some (u x) → e (k.still f) ρ σ = some (g x, σ)) (hi : i < cap.length) (hl : xs.length ≤ 1000000) :
    cComp (.one i) it (fun acc => gIfs [] (gEmit acc e)) cap k ρ σ = some (.ref σ₁.length, σ₁ ++ [.list (xs.map g)]) :=
  cComp_eqP (P := fun _ => True) hit hm trivial (fun _ _ _ => trivial) (fun x ρ σ _ => he x ρ σ) hi hl
theorem getV_setAt_ne : ∀ {ρ : Lo} {i j : Nat} {v : Option MV}, i ≠ j → getV (setAt ρ i v) j = getV ρ j := by
  intro ρ
  induction ρ with
  | nil => intro i j v h; rfl
  | cons a r ih =>
    intro i j v h
    cases i with
    | zero => cases j with
      | zero => exact absurd rfl h
      | succ j => rfl
    | succ i => cases j with
      | zero => rfl
      | succ j => exact ih fun e => h (by rw [e])
theorem intsOf_map : ∀ l : List Int, intsOf (l.map .int) = some l
  | [] => rfl
  | a :: l => by
    show bd1 (intsOf (l.map .int)) _ = _
    rw [intsOf_map l]
    rfl
theorem natsOf_map : ∀ l : List Nat, (∀ a ∈ l, a < 256) → natsOf (l.map fun a => .int (.ofNat a)) = some l
  | [], _ => rfl
  | a :: l, h => by
    show bd1 (natsOf (l.map _)) (fun l => cnd (Nat.blt a 256) _ _) = _
    rw [natsOf_map l fun b hb => h b (List.mem_cons_of_mem _ hb), bd1_mk, cnd_eq, if_pos]
    have := h a List.mem_cons_self
    show Nat.ble (a + 1) 256 = true
    exact Nat.ble_eq_true_of_le this
theorem getO_at {σ : Hp} {j : Nat} {o : MO} (h : σ[j]? = some o) : getO σ j = some o := by unfold getO; rw [nth_eq, h]
theorem cLoc_eq {k : Kx} {ρ : Lo} {σ : Hp} {i : Nat} {v : MV} (h : getV ρ i = some v) : cLoc i k ρ σ = some (v, σ) := by unfold cLoc; rw [h, bd1_mk]
theorem cut_upto {α : Type} (m : Nat) (x : List α) : cut none (some (.ofNat m)) x = x.take m := by
  unfold cut
  rw [frN_eq, frN_eq, frN_eq, takeR_eq, dropR_eq, len_eq]
  show List.take (cnd (Nat.ble x.length m) x.length m - 0) (x.drop 0) = _
  rw [cnd_eq]
  split
  · rename_i h
    have := Nat.le_of_ble_eq_true h
    simp [List.take_of_length_le this]
  · simp
theorem cut_from {α : Type} (m : Nat) (x : List α) : cut (some (.ofNat m)) none x = x.drop m := by
  unfold cut
  rw [frN_eq, frN_eq, frN_eq, takeR_eq, dropR_eq, len_eq]
  show List.take (x.length - cnd (Nat.ble x.length m) x.length m) (x.drop (cnd (Nat.ble x.length m) x.length m)) = _
  rw [cnd_eq]
  split
  · rename_i h
    have := Nat.le_of_ble_eq_true h
    simp [List.drop_of_length_le this]
  · rw [List.take_of_length_le (by simp)]
theorem slc_upto' {k : Kx} {ρ : Lo} {σ : Hp} {c d : CE} {m j : Nat} {x : List MV} {σ₁ σ₂ : Hp} (h : c k ρ σ = some (.ref j, σ₁)) (h' : d k ρ σ₁ = some (.int (.ofNat m), σ₂)) (ho : getO σ₂ j = some (.list x)) : cSlc c none (some d) k ρ σ = some (.ref σ₂.length, σ₂ ++ [.list (x.take m)]) := by
  unfold cSlc
  rw [h, bnd_mk]
  show bnd (bnd (d k ρ σ₁) fun v σ => some (some v, σ)) (fun u σ => sliceV σ (.ref j) none u) = _
  rw [h']
  show sliceV σ₂ (.ref j) none (some (.int (.ofNat m))) = _
  unfold sliceV cutV
  show (match getO σ₂ j with | some (.list x) => frS (cut none (some (.ofNat m)) x) fun z => new σ₂ (.list z) | _ => none) = _
  rw [ho]
  dsimp only
  rw [frS_eq, new_eq, cut_upto]
theorem slc_upto {k : Kx} {ρ : Lo} {σ : Hp} {c : CE} {m j : Nat} {x : List MV} {σ₁ : Hp} (h : c k ρ σ = some (.ref j, σ₁)) (ho : getO σ₁ j = some (.list x)) : cSlc c none (some (cVal (.int (.ofNat m)))) k ρ σ = some (.ref σ₁.length, σ₁ ++ [.list (x.take m)]) := slc_upto' h rfl ho
theorem slc_from {k : Kx} {ρ : Lo} {σ : Hp} {c d : CE} {m j : Nat} {x : List MV} {σ₁ σ₂ : Hp} (h : c k ρ σ = some (.ref j, σ₁)) (h' : d k ρ σ₁ = some (.int (.ofNat m), σ₂)) (ho : getO σ₂ j = some (.list x)) : cSlc c (some d) none k ρ σ = some (.ref σ₂.length, σ₂ ++ [.list (x.drop m)]) := by
  unfold cSlc
  rw [h, bnd_mk]
  show bnd (bnd (d k ρ σ₁) fun v σ => some (some v, σ)) _ = _
  rw [h']
  show sliceV σ₂ (.ref j) (some (.int (.ofNat m))) none = _
  unfold sliceV cutV
  show (match getO σ₂ j with | some (.list x) => frS (cut (some (.ofNat m)) none x) fun z => new σ₂ (.list z) | _ => none) = _
  rw [ho]
  dsimp only
  rw [frS_eq, new_eq, cut_from]
theorem lenL_eq {σ : Hp} {j : Nat} {x : List MV} (ho : getO σ j = some (.list x)) : lenV σ (.ref j) = some (.int (.ofNat x.length), σ) := by
  unfold lenV
  dsimp only
  rw [ho]
  dsimp only
  rw [retN_eq, len_eq]
theorem addL_eq {σ : Hp} {i j : Nat} {x y : List MV} (hx : getO σ i = some (.list x)) (hy : getO σ j = some (.list y)) (hl : x.length + y.length ≤ 1000000) : addV σ (.ref i) (.ref j) = some (.ref σ.length, σ ++ [.list (x ++ y)]) := by
  unfold addV
  dsimp only
  rw [hx, hy]
  dsimp only
  rw [frS_eq, app_eq, chk_eq _ (by simpa using hl), new_eq]
theorem sumL_eq {σ : Hp} {j : Nat} {l : List Int} (ho : getO σ j = some (.list (l.map .int))) : sumV σ (.ref j) = some (.int (sumI l 0), σ) := by
  unfold sumV
  dsimp only
  rw [ho]
  dsimp only
  rw [intsOf_map, bd1_mk, retI_eq]
theorem sortedL_eq {σ : Hp} {j : Nat} {l : List Int} (ho : getO σ j = some (.list (l.map .int))) (hl : l.length ≤ 60) : sortedV σ (.ref j) = some (.ref σ.length, σ ++ [.list ((sortI l).map .int)]) := by
  unfold sortedV
  dsimp only
  rw [ho]
  dsimp only
  rw [len_eq, List.length_map, Nat.ble_eq_true_of_le hl, cnd_t, intsOf_map, bd1_mk, newL_eq]
theorem bytesL_eq {σ : Hp} {j : Nat} {l : List Nat} (ho : getO σ j = some (.list (l.map fun a => .int (.ofNat a)))) (hl : ∀ a ∈ l, a < 256) : bytesV σ (.ref j) = some (.bytes l, σ) := by
  unfold bytesV
  dsimp only
  rw [ho]
  dsimp only
  rw [natsOf_map l hl, bd1_mk, frNs_eq]
theorem sNm_eq {k : Kx} {ρ : Lo} {σ σ' : Hp} {i : Nat} {e : CE} {v : MV} (h : e k ρ σ = some (v, σ')) : sNm i e k ρ σ = some (.next, setAt ρ i (some v), σ') := by
  unfold sNm
  rw [h, bnd_mk, setK_eq]
theorem cB1_eq {k : Kx} {ρ : Lo} {σ σ' : Hp} {f : Hp → MV → RE} {x : CE} {v : MV} (h : x k ρ σ = some (v, σ')) : cB1 f x k ρ σ = f σ' v := by
  unfold cB1
  rw [h, bnd_mk]
theorem cBin_eq {k : Kx} {ρ : Lo} {σ σ₁ σ₂ : Hp} {f : Hp → MV → MV → RE} {x y : CE} {v u : MV} (h : x k ρ σ = some (v, σ₁)) (h' : y k ρ σ₁ = some (u, σ₂)) : cBin f x y k ρ σ = f σ₂ v u := by
  unfold cBin
  rw [h, bnd_mk, h', bnd_mk]
theorem iE_list {k : Kx} {ρ : Lo} {σ σ' : Hp} {x : CE} {j : Nat} {l : List MV} (h : x k ρ σ = some (.ref j, σ')) (ho : getO σ' j = some (.list l)) : iE x k ρ σ = some (.plain (some j) l, σ') := by
  unfold iE
  rw [h, bnd_mk]
  have : itemsV σ' (.ref j) = some (some j, l) := by
    unfold itemsV
    dsimp only
    rw [ho]
  rw [this, bnd_mk]
theorem mod_pos {σ : Hp} (x y : Int) (h : 0 < y) : modV σ (.int x) (.int y) = some (.int (Int.fmod x y), σ) := by
  unfold modV
  dsimp only
  rw [cnd_eq, if_pos, retI_eq]
  exact (W.Z.ltB_iff _ _).mpr h
theorem addI_eq (σ : Hp) (x y : Int) : addV σ (.int x) (.int y) = some (.int (x + y), σ) := retI_eq ..
theorem subI_eq (σ : Hp) (x y : Int) : subV σ (.int x) (.int y) = some (.int (x - y), σ) := retI_eq ..
end Mine.Pre
end

section
set_option maxRecDepth 100000
namespace Mine.Pre
open PySem Mine
/-! Loops by an invariant, on the evaluator. -/
theorem forP_inv {body : Lo → Hp → RS} {t : MT} {I : Nat → Lo → Hp → Prop} : ∀ (xs : List MV) (d : Nat) {ρ : Lo} {σ : Hp},
    (∀ i v ρ σ, xs[i]? = some v → I (d + i) ρ σ → ∃ ρ₁ ρ' σ', bindT σ ρ t v = some ρ₁ ∧ body ρ₁ σ = some (.next, ρ', σ') ∧ I (d + i + 1) ρ' σ') → I d ρ σ → ∃ ρ' σ', forP body t xs ρ σ = some (.next, ρ', σ') ∧ I (d + xs.length) ρ' σ'
  | [], d, ρ, σ, _, h => ⟨ρ, σ, rfl, h⟩
  | v :: xs, d, ρ, σ, step, h => by
    obtain ⟨ρ₁, ρ₂, σ₂, e1, e2, h2⟩ := step 0 v ρ σ rfl h
    obtain ⟨ρ', σ', e3, h3⟩ := forP_inv (body := body) (t := t) (I := I) xs (d + 1) (ρ := ρ₂) (σ := σ₂) (fun i v ρ σ e h => by
      obtain ⟨ρ₁, ρ', σ', a, b, c⟩ := step (i + 1) v ρ σ (by simpa using e) (by rw [← Nat.add_assoc, Nat.add_right_comm]; exact h)
      exact ⟨ρ₁, ρ', σ', a, b, by rw [Nat.add_right_comm d 1 i]; rw [← Nat.add_assoc] at c; exact c⟩) h2
    refine ⟨ρ', σ', ?_, by rw [List.length_cons, Nat.add_comm xs.length 1, ← Nat.add_assoc]; exact h3⟩
    show bd1 (bindT σ ρ t v) (fun ρ => turnOn (body ρ σ) (forP body t xs)) = _
    rw [e1, bd1_mk, e2]
    exact e3
theorem sSeq_cons {c : CS} {l : List CS} {k : Kx} {ρ ρ' : Lo} {σ σ' : Hp} (h : c k ρ σ = some (.next, ρ', σ')) : sSeq (c :: l) k ρ σ = sSeq l k ρ' σ' := by
  show andThen (c k ρ σ) (sSeq l k) = _
  rw [h]
  rfl
theorem sSeq_one {c : CS} {k : Kx} {ρ ρ' : Lo} {σ σ' : Hp} (h : c k ρ σ = some (.next, ρ', σ')) : sSeq [c] k ρ σ = some (.next, ρ', σ') := sSeq_cons h
theorem sFor_plain {t : MT} {it : CI} {c : CS} {k : Kx} {ρ : Lo} {σ σ₁ : Hp} {f : Option Nat} {xs : List MV} {r : RS} (h : it k ρ σ = some (.plain f xs, σ₁)) (h' : forP (c (k.still f)) t xs ρ σ₁ = r) : sFor t it c k ρ σ = r := by
  unfold sFor
  rw [h, bnd_mk]
  exact h'
theorem sRet_eq {e : CE} {k : Kx} {ρ : Lo} {σ σ' : Hp} {v : MV} {l : List CS} (h : e k ρ σ = some (v, σ')) : retF (sSeq (sRet e :: l) k ρ σ) = some (v, σ') := by
  show retF (andThen (sRet e k ρ σ) (sSeq l k)) = _
  unfold sRet
  rw [h]
  rfl
theorem bindT_one {σ : Hp} {ρ : Lo} {i : Nat} {v : MV} : bindT σ ρ (.one i) v = some (setAt ρ i (some v)) := setK_eq ρ i (some v) some
/-- a break at the end -/
theorem forP_brk {body : Lo → Hp → RS} {t : MT} {v : MV} {rest : List MV} {ρ ρ₁ ρ' : Lo} {σ σ' : Hp} (e1 : bindT σ ρ t v = some ρ₁) (e2 : body ρ₁ σ = some (.brk, ρ', σ')) : forP body t (v :: rest) ρ σ = some (.next, ρ', σ') := by
  show bd1 (bindT σ ρ t v) (fun ρ => turnOn (body ρ σ) (forP body t rest)) = _
  rw [e1, bd1_mk, e2]
  rfl
theorem forE_inv {body : Lo → Hp → RS} {a b : Nat} {I : Nat → Lo → Hp → Prop} : ∀ (xs : List MV) (d : Nat) {ρ : Lo} {σ : Hp},
    (∀ i v ρ σ, xs[i]? = some v → I (d + i) ρ σ → ∃ ρ' σ', body (setAt (setAt ρ a (some (.int (.ofNat (d + i))))) b (some v)) σ = some (.next, ρ', σ') ∧ I (d + i + 1) ρ' σ') → I d ρ σ → ∃ ρ' σ', forE body a b xs d ρ σ = some (.next, ρ', σ') ∧ I (d + xs.length) ρ' σ'
  | [], d, ρ, σ, _, h => ⟨ρ, σ, rfl, h⟩
  | v :: xs, d, ρ, σ, step, h => by
    obtain ⟨ρ₂, σ₂, e2, h2⟩ := step 0 v ρ σ rfl h
    obtain ⟨ρ', σ', e3, h3⟩ := forE_inv (body := body) (a := a) (b := b) (I := I) xs (d + 1) (ρ := ρ₂) (σ := σ₂) (fun i v ρ σ e h => by
      obtain ⟨ρ', σ', p, c⟩ := step (i + 1) v ρ σ (by simpa using e) (by rw [← Nat.add_assoc, Nat.add_right_comm]; exact h)
      exact ⟨ρ', σ', by rw [Nat.add_right_comm d 1 i]; rw [← Nat.add_assoc] at p; exact p, by rw [Nat.add_right_comm d 1 i]; rw [← Nat.add_assoc] at c; exact c⟩) h2
    refine ⟨ρ', σ', ?_, by rw [List.length_cons, Nat.add_comm xs.length 1, ← Nat.add_assoc]; exact h3⟩
    show frN d (fun n => setK ρ a (some (.int (.ofNat n))) fun ρ => setK ρ b (some v) fun ρ => turnOn (body ρ σ) (forE body a b xs (Nat.add n 1))) = _
    rw [frN_eq, setK_eq, setK_eq]
    have e2 : body (setAt (setAt ρ a (some (.int (.ofNat d)))) b (some v)) σ = some (.next, ρ₂, σ₂) := e2
    rw [e2]
    exact e3
/-- range(a, b): the ints from a on -/
theorem upto_eq (b : Int) : ∀ (n : Nat) (a : Int), (b - a).toNat ≤ n → upto b 1 n a = (List.range (b - a).toNat).map fun i => .int (a + (i : Nat))
  | 0, a, h => by
    have : (b - a).toNat = 0 := Nat.le_zero.mp h
    rw [this]; rfl
  | n + 1, a, h => by
    show cnd (W.Z.ltB a b) (.int a :: frI (a + 1) (upto b 1 n)) [] = _
    rw [cnd_eq, frI_eq]
    split
    · rename_i q
      have q := (W.Z.ltB_iff _ _).mp q
      rw [upto_eq b n (a + 1) (by omega)]
      have : (b - a).toNat = (b - (a + 1)).toNat + 1 := by omega
      rw [this, List.range_succ_eq_map, List.map_cons, List.map_map]
      congr 1
      · simp
      · refine List.map_congr_left fun i _ => ?_
        show MV.int _ = MV.int _
        congr 1
        show a + 1 + (i : Int) = a + ((i + 1 : Nat) : Int)
        omega
    · rename_i q
      have : (b - a).toNat = 0 := by
        have : ¬ a < b := fun z => q ((W.Z.ltB_iff _ _).mpr z)
        omega
      rw [this]; rfl
theorem rangeL_eq (a b : Int) : rangeL a b 1 = (List.range (b - a).toNat).map fun i => .int (a + (i : Nat)) := upto_eq b _ a (Nat.le_refl _)
theorem getO_new {σ t : Hp} {i : Nat} {o : MO} (h : t[i]? = some o) : getO (σ ++ t) (σ.length + i) = some o := getO_at (by rw [List.getElem?_append_right (Nat.le_add_right _ _), Nat.add_sub_cancel_left]; exact h)
theorem new_app (σ t : Hp) (o : MO) : new (σ ++ t) o = some (.ref (σ.length + t.length), σ ++ (t ++ [o])) := by rw [new_eq, List.length_append, List.append_assoc]
theorem setAt_app {α : Type} : ∀ (σ t : List α) (i : Nat) (v : α), setAt (σ ++ t) (σ.length + i) v = σ ++ setAt t i v
  | [], t, i, v => by simp
  | a :: σ, t, i, v => by
    rw [List.length_cons, Nat.add_right_comm]
    exact congrArg (a :: ·) (setAt_app σ t i v)
theorem setAt_of {α : Type} : ∀ {l : List α} {i : Nat} {v : α} {j : Nat}, (setAt l i v)[j]? = if i = j ∧ j < l.length then some v else l[j]?
  | [], i, v, j => by simp [setAt]
  | a :: l, 0, v, 0 => by simp [setAt]
  | a :: l, 0, v, j + 1 => by simp [setAt]
  | a :: l, i + 1, v, 0 => by simp [setAt]
  | a :: l, i + 1, v, j + 1 => by
    show (setAt l i v)[j]? = _
    rw [setAt_of]
    simp
end Mine.Pre
end

section
set_option maxRecDepth 100000
namespace Mine.L2
open PySem Mine Mine.Pre
/-- a Whitespace in the store: its runs, what trails, its tabs -/
def IsW (σ : Hp) (j : Nat) (cs : List Nat) (b nt : Nat) : Prop := ∃ d p c as, σ[j]? = some (.inst d) ∧ σ[d]? = some (.dict as) ∧ findA as 2 = some (.int (.ofNat nt)) ∧ findA as 3 = some (.ref p) ∧
  σ[p]? = some (.tuple [.ref c, .int (.ofNat b)]) ∧ σ[c]? = some (.tuple (cs.map fun x => .int (.ofNat x)))
theorem get_app {α : Type} {σ t : List α} {i : Nat} {o : α} (h : σ[i]? = some o) : (σ ++ t)[i]? = some o := by rw [List.getElem?_append_left (List.getElem?_eq_some_iff.mp h).1]; exact h
theorem IsW.app {σ t : Hp} {j : Nat} {cs : List Nat} {b nt : Nat} (h : IsW σ j cs b nt) : IsW (σ ++ t) j cs b nt := by
  obtain ⟨d, p, c, as, h1, h2, h3, h4, h5, h6⟩ := h
  exact ⟨d, p, c, as, get_app h1, get_app h2, h3, h4, get_app h5, get_app h6⟩
theorem attr_of {σ : Hp} {j d n : Nat} {as : List (Nat × MV)} {v : MV} (h1 : σ[j]? = some (.inst d)) (h2 : σ[d]? = some (.dict as)) (h3 : findA as n = some v) : getAttrV σ (.ref j) n = some v := by
  unfold getAttrV
  dsimp only
  rw [getO_at h1]
  dsimp only
  rw [getO_at h2]
  exact h3
theorem cAttr_eq {k : Kx} {ρ : Lo} {σ σ' : Hp} {x : CE} {n : Nat} {u v : MV} (h : x k ρ σ = some (u, σ')) (h' : getAttrV σ' u n = some v) : cAttr x n k ρ σ = some (v, σ') := by
  unfold cAttr
  rw [h, bnd_mk, h', bd1_mk]
theorem small_nat {n : Nat} (h : n < 1073741824) : small (.ofNat n) = true := by
  unfold small
  exact Nat.ble_eq_true_of_le h
theorem addN (σ : Hp) (x y : Nat) : addV σ (.int (.ofNat x)) (.int (.ofNat y)) = some (.int (.ofNat (x + y)), σ) := retI_eq ..
theorem mulN (σ : Hp) (x y : Nat) (h : x < 1073741824) : mulV σ (.int (.ofNat x)) (.int (.ofNat y)) = some (.int (.ofNat (x * y)), σ) := by
  show cnd (small (.ofNat x)) (retI σ (.ofNat x * .ofNat y)) none = _
  rw [small_nat h, cnd_t, retI_eq]
  rfl
theorem divN (σ : Hp) (x y : Nat) (h0 : 0 < y) (h : y < 1073741824) : divV σ (.int (.ofNat x)) (.int (.ofNat y)) = some (.int (.ofNat (x / y)), σ) := by
  show cnd (W.Z.ltB 0 (.ofNat y)) (cnd (small (.ofNat y)) (retI σ (Int.fdiv (.ofNat x) (.ofNat y))) none) none = _
  rw [(W.Z.ltB_iff 0 (Int.ofNat y)).mpr (Int.natCast_pos.mpr h0), cnd_t, small_nat h, cnd_t, retI_eq]
  have : Int.fdiv (Int.ofNat x) (Int.ofNat y) = Int.ofNat (x / y) := Int.fdiv_eq_ediv_of_nonneg (x : Int) (Int.natCast_nonneg y)
  rw [this]
theorem place_nat {i n : Nat} (h : i < n) : place (.ofNat i) n = some i := by
  show cnd (Nat.blt i n) (some i) none = _
  have : Nat.blt i n = true := Nat.ble_eq_true_of_le h
  rw [this, cnd_t]
theorem item_nat {α : Type} {x : List α} {i : Nat} {u : α} (h : x[i]? = some u) : item x (.ofNat i) = some u := by
  unfold item
  rw [frN_eq, len_eq, place_nat (List.getElem?_eq_some_iff.mp h).1, bd1_mk, nth_eq, h]
theorem tupItem {σ : Hp} {c i : Nat} {x : List MV} {u : MV} (hc : σ[c]? = some (.tuple x)) (hl : x.length ≤ 1000000) (h : x[i]? = some u) : getItemV σ (.ref c) (.int (.ofNat i)) = some u := by
  unfold getItemV
  dsimp only
  rw [getO_at hc]
  dsimp only
  rw [chk_eq _ hl, item_nat h]
theorem listItem {σ : Hp} {c i : Nat} {x : List MV} {u : MV} (hc : σ[c]? = some (.list x)) (h : x[i]? = some u) : getItemV σ (.ref c) (.int (.ofNat i)) = some u := by
  unfold getItemV
  dsimp only
  rw [getO_at hc]
  dsimp only
  rw [item_nat h]
theorem cSub_eq {k : Kx} {ρ : Lo} {σ σ₁ σ₂ : Hp} {x y : CE} {u v z : MV} (h : x k ρ σ = some (u, σ₁)) (h' : y k ρ σ₁ = some (v, σ₂)) (hz : getItemV σ₂ u v = some z) : cSub x y k ρ σ = some (z, σ₂) := by
  unfold cSub
  rw [h, bnd_mk, h', bnd_mk, hz, bd1_mk]
theorem lenT {σ : Hp} {c : Nat} {x : List MV} (hc : σ[c]? = some (.tuple x)) (hl : x.length ≤ 1000000) : lenV σ (.ref c) = some (.int (.ofNat x.length), σ) := by
  unfold lenV
  dsimp only
  rw [getO_at hc]
  dsimp only
  rw [chk_eq _ hl, retN_eq, len_eq]
theorem iR2 {k : Kx} {ρ : Lo} {σ σ₁ σ₂ : Hp} {x y : CE} {a b : Nat} (h : x k ρ σ = some (.int (.ofNat a), σ₁)) (h' : y k ρ σ₁ = some (.int (.ofNat b), σ₂)) (ha : a < 1073741824) (hb : b < 1073741824) :
    iR [x, y] k ρ σ = some (.plain none ((List.range (b - a)).map fun i => .int (.ofNat (a + i))), σ₂) := by
  have e : evs [x, y] k ρ σ = some ([.int (.ofNat a), .int (.ofNat b)], σ₂) := by
    show bnd (x k ρ σ) (fun v σ => bnd (bnd (y k ρ σ) fun v σ => bnd (some (([] : List MV), σ)) fun vs σ => some (v :: vs, σ)) fun vs σ => some (v :: vs, σ)) = _
    rw [h, bnd_mk, h']
    rfl
  unfold iR
  rw [e, bnd_mk]
  show cnd (small (.ofNat a)) (cnd (small (.ofNat b)) (frVs (rangeL (.ofNat a) (.ofNat b) 1) fun z => some (Its.plain none z, σ₂)) none) none = _
  rw [small_nat ha, cnd_t, small_nat hb, cnd_t, frVs_eq, rangeL_eq]
  have : ((Int.ofNat b) - (Int.ofNat a)).toNat = b - a := by
    show ((b : Int) - (a : Int)).toNat = _
    omega
  rw [this]
  rfl
/-- the sum of the first k -/
def sumTo (f : Nat → Nat) : Nat → Nat
  | 0 => 0
  | k + 1 => sumTo f k + f k
/-- an indent's column -/
def col (cs : List Nat) (b nt ts : Nat) : Nat := b + ts * (sumTo (fun i => (ts + i) / ts * cs.getD (ts + i) 0) (cs.length - ts) + nt)
theorem range_get {n i : Nat} {f : Nat → MV} {v : MV} (h : ((List.range n).map f)[i]? = some v) : i < n ∧ v = f i := by
  rw [List.getElem?_map, Option.map_eq_some_iff] at h
  obtain ⟨a, h1, h2⟩ := h
  have hi := (List.getElem?_eq_some_iff.mp h1).1
  rw [List.length_range] at hi
  rw [List.getElem?_range hi] at h1
  cases h1
  exact ⟨hi, h2.symm⟩
theorem indent_eq {σ : Hp} {j : Nat} {cs : List Nat} {b nt ts : Nat} (W : IsW σ j cs b nt) (h1 : 1 ≤ ts) (ht : ts ≤ 1000) (hl : cs.length ≤ 1000) : F_indent_level σ [.ref j, .int (.ofNat ts)] = some (.int (.ofNat (col cs b nt ts)), σ) := by
  obtain ⟨d, p, c, as, e1, e2, e3, e4, e5, e6⟩ := W
  have hk : (cs.map fun x => MV.int (.ofNat x)).length ≤ 1000000 := by rw [List.length_map]; omega
  have f0 : F_indent_level σ [.ref j, .int (.ofNat ts)] = retF (B_indent_level ⟨σ.length, []⟩ [some (.ref j), some (.int (.ofNat ts)), none, none, none, none, none, none] σ) := by
    unfold F_indent_level fDef
    rw [frN_eq, len_eq]
    rfl
  rw [f0]
  unfold B_indent_level
  have s1 : sTp [2, 3] (cAttr (cLoc 0) 3) ⟨σ.length, []⟩ [some (.ref j), some (.int (.ofNat ts)), none, none, none, none, none, none] σ = some (.next, [some (.ref j), some (.int (.ofNat ts)), some (.ref c), some (.int (.ofNat b)), none, none, none, none], σ) := by
    unfold sTp
    rw [cAttr_eq (cLoc_eq rfl) (attr_of e1 e2 e4), bnd_mk]
    unfold unpackV
    dsimp only
    rw [getO_at e5]
    rfl
  rw [sSeq_cons s1, sSeq_cons (sNm_eq (v := .int (.ofNat 0)) rfl)]
  have hr := iR2 (k := ⟨σ.length, []⟩) (ρ := setAt [some (.ref j), some (.int (.ofNat ts)), some (.ref c), some (.int (.ofNat b)), none, none, none, none] 4 (some (.int (.ofNat 0)))) (cLoc_eq (σ := σ) (i := 1) (v := .int (.ofNat ts)) rfl)
    ((cB1_eq (f := lenV) (cLoc_eq (i := 2) (v := .ref c) rfl)).trans (lenT e6 hk)) (by omega) (by rw [List.length_map]; omega)
  obtain ⟨ρ', σ', hf, hI⟩ := forP_inv (body := (sSeq [sNm 4 (cBin addV (cLoc 4) (cBin mulV (cBin divV (cLoc 5) (cLoc 1)) (cSub (cLoc 2) (cLoc 5))))]) ⟨σ.length, []⟩) (t := .one 5)
    (I := fun i ρ σ' => σ' = σ ∧ ∃ x, ρ = [some (.ref j), some (.int (.ofNat ts)), some (.ref c), some (.int (.ofNat b)), some (.int (.ofNat (sumTo (fun i => (ts + i) / ts * cs.getD (ts + i) 0) i))), x, none, none])
    ((List.range ((cs.map fun x => MV.int (.ofNat x)).length - ts)).map fun i => .int (.ofNat (ts + i))) 0 (ρ := setAt [some (.ref j), some (.int (.ofNat ts)), some (.ref c), some (.int (.ofNat b)), none, none, none, none] 4 (some (.int (.ofNat 0)))) (σ := σ) (by
    rintro i v ρ σ' hv ⟨rfl, x, hx⟩
    rw [Nat.zero_add] at hx ⊢
    subst hx
    obtain ⟨hi, rfl⟩ := range_get hv
    rw [List.length_map] at hi
    have hg : cs[ts + i]? = some (cs.getD (ts + i) 0) := by
      rw [List.getD_eq_getElem?_getD]
      have : ts + i < cs.length := by omega
      rw [List.getElem?_eq_getElem this]; rfl
    have hd : (ts + i) / ts < 1073741824 := Nat.lt_of_le_of_lt (Nat.div_le_self _ _) (by omega)
    have b1 := (cBin_eq (f := divV) (cLoc_eq (k := ⟨σ'.length, []⟩) (ρ := [some (.ref j), some (.int (.ofNat ts)), some (.ref c), some (.int (.ofNat b)), some (.int (.ofNat (sumTo (fun i => (ts + i) / ts * cs.getD (ts + i) 0) i))), some (.int (.ofNat (ts + i))), none, none]) (σ := σ') (i := 5) rfl) (cLoc_eq (i := 1) rfl)).trans (divN _ _ _ (by omega) (by omega))
    have b2 := cSub_eq (cLoc_eq (k := ⟨σ'.length, []⟩) (ρ := [some (.ref j), some (.int (.ofNat ts)), some (.ref c), some (.int (.ofNat b)), some (.int (.ofNat (sumTo (fun i => (ts + i) / ts * cs.getD (ts + i) 0) i))), some (.int (.ofNat (ts + i))), none, none]) (σ := σ') (i := 2) rfl) (cLoc_eq (i := 5) rfl) (tupItem e6 hk (by rw [List.getElem?_map, hg]; rfl))
    have b3 := (cBin_eq (f := mulV) b1 b2).trans (mulN _ _ _ hd)
    have b4 := (cBin_eq (f := addV) (cLoc_eq (i := 4) rfl) b3).trans (addN ..)
    exact ⟨_, _, σ', bindT_one, sSeq_one (sNm_eq b4), rfl, _, rfl⟩) ⟨rfl, none, rfl⟩
  rw [sSeq_cons (sFor_plain hr hf)]
  obtain ⟨rfl, x, rfl⟩ := hI
  have s4 : cBin addV (cLoc 3) (cBin mulV (cLoc 1) (cBin addV (cLoc 4) (cAttr (cLoc 0) 2))) ⟨σ'.length, []⟩ [some (.ref j), some (.int (.ofNat ts)), some (.ref c), some (.int (.ofNat b)), some (.int (.ofNat (sumTo (fun i => (ts + i) / ts * cs.getD (ts + i) 0) (0 + ((List.range ((cs.map fun x => MV.int (.ofNat x)).length - ts)).map fun i => MV.int (.ofNat (ts + i))).length)))), x, none, none] σ' = some (.int (.ofNat (col cs b nt ts)), σ') := by
    have hn : 0 + ((List.range ((cs.map fun x => MV.int (.ofNat x)).length - ts)).map fun i => MV.int (.ofNat (ts + i))).length = cs.length - ts := by simp
    rw [hn]
    have a1 := (cBin_eq (f := addV) (cLoc_eq (k := ⟨σ'.length, []⟩) (ρ := [some (.ref j), some (.int (.ofNat ts)), some (.ref c), some (.int (.ofNat b)), some (.int (.ofNat (sumTo (fun i => (ts + i) / ts * cs.getD (ts + i) 0) (cs.length - ts)))), x, none, none]) (σ := σ') (i := 4) rfl) (cAttr_eq (cLoc_eq (i := 0) rfl) (attr_of e1 e2 e3))).trans (addN ..)
    have a2 := (cBin_eq (f := mulV) (cLoc_eq (i := 1) rfl) a1).trans (mulN _ _ _ (by omega))
    exact (cBin_eq (f := addV) (cLoc_eq (i := 3) rfl) a2).trans (addN ..)
  exact sRet_eq s4
end Mine.L2
end

section
set_option maxRecDepth 100000
namespace Mine.L2
open PySem Mine Mine.Pre
theorem IsW.inst {σ : Hp} {j : Nat} {cs : List Nat} {b nt : Nat} (h : IsW σ j cs b nt) : isI σ (.ref j) = true := by
  obtain ⟨d, p, c, as, h1, h2, h3, h4, h5, h6⟩ := h
  unfold Mine.isI
  dsimp only
  rw [getO_at h1]
  dsimp only
  rw [getO_at h2]
theorem cIm0 {k : Kx} {ρ : Lo} {σ : Hp} {F : FS} {x : CE} {u : MV} {r : RE} (h : x k ρ σ = some (u, σ)) (hi : isI σ u = true) (hF : F σ [u] = r) : cIm F x [] k ρ σ = r := by
  unfold cIm
  rw [h, bnd_mk, hi, cnd_t]
  exact hF
theorem cIm1 {k : Kx} {ρ : Lo} {σ : Hp} {F : FS} {x y : CE} {u v : MV} {r : RE} (h : x k ρ σ = some (u, σ)) (hi : isI σ u = true) (hy : y k ρ σ = some (v, σ)) (hF : F σ [u, v] = r) : cIm F x [y] k ρ σ = r := by
  unfold cIm
  rw [h, bnd_mk, hi, cnd_t]
  show bnd (bnd (y k ρ σ) fun v σ => bnd (some (([] : List MV), σ)) fun vs σ => some (v :: vs, σ)) (fun vs σ => F σ (u :: vs)) = _
  rw [hy]
  exact hF
theorem longest_eq {σ : Hp} {j : Nat} {cs : List Nat} {b nt : Nat} (W : IsW σ j cs b nt) (hl : cs.length ≤ 1000) : F_longest_run_of_spaces σ [.ref j] = some (.int (.ofNat (max (cs.length - 1) b)), σ) := by
  obtain ⟨d, p, c, as, e1, e2, e3, e4, e5, e6⟩ := W
  have hk : (cs.map fun x => MV.int (.ofNat x)).length ≤ 1000000 := by rw [List.length_map]; omega
  have f0 : F_longest_run_of_spaces σ [.ref j] = retF (B_longest_run_of_spaces ⟨σ.length, []⟩ [some (.ref j), none, none, none, none] σ) := by
    unfold F_longest_run_of_spaces fDef
    rw [frN_eq, len_eq]
    rfl
  rw [f0]
  unfold B_longest_run_of_spaces
  have s1 : sTp [1, 2] (cAttr (cLoc 0) 3) ⟨σ.length, []⟩ [some (.ref j), none, none, none, none] σ = some (.next, [some (.ref j), some (.ref c), some (.int (.ofNat b)), none, none], σ) := by
    unfold sTp
    rw [cAttr_eq (cLoc_eq rfl) (attr_of e1 e2 e4), bnd_mk]
    unfold unpackV
    dsimp only
    rw [getO_at e5]
    rfl
  rw [sSeq_cons s1]
  have a1 := (cB1_eq (f := lenV) (cLoc_eq (k := ⟨σ.length, []⟩) (ρ := [some (.ref j), some (.ref c), some (.int (.ofNat b)), none, none]) (σ := σ) (i := 1) (v := .ref c) rfl)).trans (lenT e6 hk)
  have a2 := (cBin_eq (f := subV) a1 (show cVal (.int (.ofNat 1)) _ _ _ = some (.int (.ofNat 1), σ) from rfl)).trans (subI_eq ..)
  refine sRet_eq ?_
  show bnd (cBin subV _ _ _ _ _) (fun a σ => bnd (cLoc 2 _ _ σ) fun b σ => maxV σ a b) = _
  rw [a2, bnd_mk, cLoc_eq (v := .int (.ofNat b)) rfl, bnd_mk]
  show retI σ (cnd (W.Z.ltB _ _) _ _) = _
  rw [retI_eq, List.length_map]
  congr 3
  rw [cnd_eq]
  have z : (Int.ofNat cs.length - Int.ofNat 1 : Int) = (cs.length : Int) - 1 := rfl
  rw [z]
  split
  · rename_i q
    have q := (W.Z.ltB_iff _ _).mp q
    show (b : Int) = ((max (cs.length - 1) b : Nat) : Int)
    have q : (cs.length : Int) - 1 < (b : Int) := q
    omega
  · rename_i q
    have q : ¬ (cs.length : Int) - 1 < (b : Int) := fun w => q ((W.Z.ltB_iff _ _).mpr w)
    show (cs.length : Int) - 1 = ((max (cs.length - 1) b : Nat) : Int)
    omega
/-- rows of three, laid as tuples -/
def Rows (σ : Hp) : List MV → List (Nat × Nat × Nat) → Prop
  | [], [] => True
  | .ref r :: vs, x :: l => σ[r]? = some (.tuple [.int (.ofNat x.1), .int (.ofNat x.2.1), .int (.ofNat x.2.2)]) ∧ Rows σ vs l
  | _, _ => False
theorem Rows.mono {σ σ' : Hp} (h : ∀ (r : Nat) (xs : List MV), σ[r]? = some (MO.tuple xs) → σ'[r]? = some (MO.tuple xs)) : ∀ {vs : List MV} {l : List (Nat × Nat × Nat)}, Rows σ vs l → Rows σ' vs l
  | [], [], _ => trivial
  | .ref r :: vs, x :: l, w => ⟨h _ _ w.1, Rows.mono h w.2⟩
  | [], _ :: _, w => w.elim
  | .ref _ :: _, [], w => w.elim
  | .none :: _, _, w => w.elim
  | .bool _ :: _, _, w => w.elim
  | .int _ :: _, _, w => w.elim
  | .str _ :: _, _, w => w.elim
  | .bytes _ :: _, _, w => w.elim
theorem Rows.snoc {σ : Hp} {r : Nat} {x : Nat × Nat × Nat} (hx : σ[r]? = some (.tuple [.int (.ofNat x.1), .int (.ofNat x.2.1), .int (.ofNat x.2.2)])) : ∀ {vs : List MV} {l : List (Nat × Nat × Nat)}, Rows σ vs l → Rows σ (vs ++ [.ref r]) (l ++ [x])
  | [], [], _ => ⟨hx, trivial⟩
  | .ref _ :: vs, _ :: l, w => ⟨w.1, Rows.snoc hx w.2⟩
  | [], _ :: _, w => w.elim
  | .ref _ :: _, [], w => w.elim
  | .none :: _, _, w => w.elim
  | .bool _ :: _, _, w => w.elim
  | .int _ :: _, _, w => w.elim
  | .str _ :: _, _, w => w.elim
  | .bytes _ :: _, _, w => w.elim
theorem Rows.length {σ : Hp} : ∀ {vs : List MV} {l : List (Nat × Nat × Nat)}, Rows σ vs l → vs.length = l.length
  | [], [], _ => rfl
  | .ref _ :: vs, _ :: l, w => congrArg (· + 1) (Rows.length w.2)
  | [], _ :: _, w => w.elim
  | .ref _ :: _, [], w => w.elim
  | .none :: _, _, w => w.elim
  | .bool _ :: _, _, w => w.elim
  | .int _ :: _, _, w => w.elim
  | .str _ :: _, _, w => w.elim
  | .bytes _ :: _, _, w => w.elim
/-- a list under way at the end of what is old: an append -/
theorem append_at {σ t : Hp} {vs : List MV} {v : MV} {k : Kx} (hm : k.mut σ.length = true) (hl : vs.length < 1000000) : appendV k (σ ++ .list vs :: t) (.ref σ.length) v = some (.none, σ ++ .list (vs ++ [v]) :: t) := by
  unfold appendV
  dsimp only
  rw [hm, cnd_t]
  have : getO (σ ++ MO.list vs :: t) σ.length = some (.list vs) := getO_new (σ := σ) (t := MO.list vs :: t) (i := 0) rfl
  rw [this]
  dsimp only
  rw [frS_eq, app_eq, chk_eq _ (by simp; omega), setK_eq]
  have := setAt_app σ (MO.list vs :: t) 0 (.list (vs ++ [v]))
  rw [Nat.add_zero] at this
  rw [this]
  rfl
theorem tup_list {σ t : Hp} {vs vs' : List MV} (r : Nat) (xs : List MV) (h : (σ ++ MO.list vs :: t)[r]? = some (.tuple xs)) : (σ ++ MO.list vs' :: t)[r]? = some (.tuple xs) := by
  by_cases q : r < σ.length
  · rw [List.getElem?_append_left q] at h ⊢; exact h
  · rw [List.getElem?_append_right (Nat.le_of_not_lt q)] at h ⊢
    cases z : r - σ.length with
    | zero => rw [z] at h; cases h
    | succ n => rw [z] at h; exact h
def witL (q : Nat → Nat → Bool) (c c' : Nat → Nat) : Nat → List (Nat × Nat × Nat)
  | 0 => []
  | n + 1 => witL q c c' n ++ if q (c (n + 1)) (c' (n + 1)) then [(n + 1, c (n + 1), c' (n + 1))] else []
theorem witL_length {q : Nat → Nat → Bool} {c c' : Nat → Nat} : ∀ n, (witL q c c' n).length ≤ n
  | 0 => Nat.le_refl _
  | n + 1 => by
    unfold witL
    rw [List.length_append]
    have := witL_length (q := q) (c := c) (c' := c') n
    split <;> simp <;> omega
noncomputable section
def stepW (cmp : Hp → MV → MV → Option Bool) : CS := sSeq [sIf (tCmp cmp (cIm F_indent_level (cLoc 0) [(cLoc 4)]) (cIm F_indent_level (cLoc 1) [(cLoc 4)])) (sSeq [
      sExp (cMeth isL appendV (cLoc 3) (cTup [(cLoc 4), (cIm F_indent_level (cLoc 0) [(cLoc 4)]), (cIm F_indent_level (cLoc 1) [(cLoc 4)])]))]) (sSeq [])]
def B_wit (cmp : Hp → MV → MV → Option Bool) : CS := sSeq [
  sNm 2 (cBin addV (cB2 maxV (cIm F_longest_run_of_spaces (cLoc 0) []) (cIm F_longest_run_of_spaces (cLoc 1) [])) (cVal (.int (.ofNat 1)))),
  sNm 3 (cLst []),
  sFor (.one 4) (iR [(cVal (.int (.ofNat 1))), (cBin addV (cLoc 2) (cVal (.int (.ofNat 1))))]) (stepW cmp),
  sRet (cLoc 3)]
end
theorem tCmp_eq {k : Kx} {ρ : Lo} {σ σ₁ σ₂ : Hp} {cmp : Hp → MV → MV → Option Bool} {x y : CE} {u v : MV} {c : Bool} (h : x k ρ σ = some (u, σ₁)) (h' : y k ρ σ₁ = some (v, σ₂)) (hc : cmp σ₂ u v = some c) : tCmp cmp x y k ρ σ = some (c, σ₂) := by
  unfold tCmp
  rw [h, bnd_mk, h', bnd_mk, hc]
  exact frP_eq c fun c => some (c, σ₂)
theorem tup3_eq {k : Kx} {ρ : Lo} {σ : Hp} {x y z : CE} {u v w : MV} (h : x k ρ σ = some (u, σ)) (h' : y k ρ σ = some (v, σ)) (h'' : z k ρ σ = some (w, σ)) : cTup [x, y, z] k ρ σ = some (.ref σ.length, σ ++ [.tuple [u, v, w]]) := by
  unfold cTup
  have e : evs [x, y, z] k ρ σ = some ([u, v, w], σ) := by
    show bnd (x k ρ σ) (fun v σ => bnd (bnd (y k ρ σ) fun v σ => bnd (bnd (z k ρ σ) fun v σ => bnd (some (([] : List MV), σ)) fun vs σ => some (v :: vs, σ)) fun vs σ => some (v :: vs, σ)) fun vs σ => some (v :: vs, σ)) = _
    rw [h, bnd_mk, h', bnd_mk, h'']
    rfl
  rw [e, bnd_mk, new_eq]
theorem step_eq {cmp : Hp → MV → MV → Option Bool} {q : Nat → Nat → Bool} (hq : ∀ σ x y, cmp σ (.int (.ofNat x)) (.int (.ofNat y)) = some (q x y)) {σ t : Hp} {i j : Nat} {cs cs' : List Nat} {b b' nt nt' : Nat} (W : IsW σ i cs b nt) (W' : IsW σ j cs' b' nt')
    (hl : cs.length ≤ 1000) (hl' : cs'.length ≤ 1000) {n ts : Nat} (h1 : 1 ≤ ts) (ht : ts ≤ 1000) {vs : List MV} {l : List (Nat × Nat × Nat)} (hr : Rows (σ ++ .list vs :: t) vs l) (hv : vs.length < 1000000) :
    ∃ vs' t', stepW cmp ⟨σ.length, []⟩ [some (.ref i), some (.ref j), some (.int (.ofNat n)), some (.ref σ.length), some (.int (.ofNat ts)), none, none] (σ ++ .list vs :: t) =
      some (.next, [some (.ref i), some (.ref j), some (.int (.ofNat n)), some (.ref σ.length), some (.int (.ofNat ts)), none, none], σ ++ .list vs' :: t') ∧
      Rows (σ ++ .list vs' :: t') vs' (l ++ if q (col cs b nt ts) (col cs' b' nt' ts) then [(ts, col cs b nt ts, col cs' b' nt' ts)] else []) := by
  have i1 : ∀ u, cIm F_indent_level (cLoc 0) [(cLoc 4)] ⟨σ.length, []⟩ [some (.ref i), some (.ref j), some (.int (.ofNat n)), some (.ref σ.length), some (.int (.ofNat ts)), none, none] (σ ++ u) = some (.int (.ofNat (col cs b nt ts)), σ ++ u) :=
    fun u => cIm1 (cLoc_eq rfl) W.app.inst (cLoc_eq rfl) (indent_eq W.app h1 ht hl)
  have i2 : ∀ u, cIm F_indent_level (cLoc 1) [(cLoc 4)] ⟨σ.length, []⟩ [some (.ref i), some (.ref j), some (.int (.ofNat n)), some (.ref σ.length), some (.int (.ofNat ts)), none, none] (σ ++ u) = some (.int (.ofNat (col cs' b' nt' ts)), σ ++ u) :=
    fun u => cIm1 (cLoc_eq rfl) W'.app.inst (cLoc_eq rfl) (indent_eq W'.app h1 ht hl')
  unfold stepW
  have ht := tCmp_eq (i1 _) (i2 (.list vs :: t)) (hq _ (col cs b nt ts) (col cs' b' nt' ts))
  cases hb : q (col cs b nt ts) (col cs' b' nt' ts) with
  | false =>
    rw [hb] at ht
    refine ⟨vs, t, sSeq_one ?_, by simpa using hr⟩
    unfold sIf
    rw [ht, bnd_mk, cnd_f]
    rfl
  | true =>
    rw [hb] at ht
    have e3 := tup3_eq (cLoc_eq (k := ⟨σ.length, []⟩) (ρ := [some (.ref i), some (.ref j), some (.int (.ofNat n)), some (.ref σ.length), some (.int (.ofNat ts)), none, none]) (σ := σ ++ .list vs :: t) (i := 4) rfl) (i1 _) (i2 _)
    have e4 : (σ ++ MO.list vs :: t) ++ [MO.tuple [.int (.ofNat ts), .int (.ofNat (col cs b nt ts)), .int (.ofNat (col cs' b' nt' ts))]] = σ ++ .list vs :: (t ++ [MO.tuple [.int (.ofNat ts), .int (.ofNat (col cs b nt ts)), .int (.ofNat (col cs' b' nt' ts))]]) := by simp
    rw [e4] at e3
    refine ⟨vs ++ [.ref (σ ++ .list vs :: t).length], t ++ [MO.tuple [.int (.ofNat ts), .int (.ofNat (col cs b nt ts)), .int (.ofNat (col cs' b' nt' ts))]], sSeq_one ?_, ?_⟩
    · unfold sIf
      rw [ht, bnd_mk, cnd_t]
      refine sSeq_one ?_
      show bnd (cMeth isL appendV (cLoc 3) (cTup _) _ _ _) _ = _
      unfold cMeth
      rw [cLoc_eq (v := .ref σ.length) rfl, bnd_mk]
      have hL : isL (σ ++ MO.list vs :: t) (.ref σ.length) = true := by
        unfold isL
        dsimp only
        rw [show getO (σ ++ MO.list vs :: t) σ.length = some (.list vs) from getO_new (σ := σ) (t := MO.list vs :: t) (i := 0) rfl]
      rw [hL, cnd_t, e3, bnd_mk, append_at (Kx.mut_of (Nat.le_refl _) rfl) hv]
      rfl
    · rw [if_pos rfl]
      refine Rows.snoc (x := (ts, col cs b nt ts, col cs' b' nt' ts)) ?_ (hr.mono fun r xs h => ?_)
      · have : (σ ++ MO.list (vs ++ [.ref (σ ++ .list vs :: t).length]) :: (t ++ [MO.tuple [.int (.ofNat ts), .int (.ofNat (col cs b nt ts)), .int (.ofNat (col cs' b' nt' ts))]]))[(σ ++ .list vs :: t).length]? = some (MO.tuple [.int (.ofNat ts), .int (.ofNat (col cs b nt ts)), .int (.ofNat (col cs' b' nt' ts))]) := by
          rw [List.length_append, List.getElem?_append_right (Nat.le_add_right _ _), Nat.add_sub_cancel_left]
          simp
        exact this
      · refine tup_list (vs := vs) r xs ?_
        have := get_app (t := [MO.tuple [.int (.ofNat ts), .int (.ofNat (col cs b nt ts)), .int (.ofNat (col cs' b' nt' ts))]]) h
        rw [e4] at this
        exact this
end Mine.L2
end

section
set_option maxRecDepth 100000
namespace Mine.L2
open PySem Mine Mine.Pre
theorem maxN (σ : Hp) (x y : Nat) : maxV σ (.int (.ofNat x)) (.int (.ofNat y)) = some (.int (.ofNat (max x y)), σ) := by
  show retI σ (cnd (W.Z.ltB (.ofNat x) (.ofNat y)) (.ofNat y) (.ofNat x)) = _
  rw [retI_eq, cnd_eq]
  congr 3
  split
  · rename_i q
    have q : (x : Int) < (y : Int) := (W.Z.ltB_iff _ _).mp q
    rw [Nat.max_eq_right (by omega)]
  · rename_i q
    have q : ¬ (x : Int) < (y : Int) := fun w => q ((W.Z.ltB_iff _ _).mpr w)
    rw [Nat.max_eq_left (by omega)]
theorem cB2_eq {k : Kx} {ρ : Lo} {σ σ₁ σ₂ : Hp} {f : Hp → MV → MV → RE} {x y : CE} {u v : MV} (h : x k ρ σ = some (u, σ₁)) (h' : y k ρ σ₁ = some (v, σ₂)) : cB2 f x y k ρ σ = f σ₂ u v := by
  unfold cB2
  rw [h, bnd_mk, h', bnd_mk]
theorem wit_eq {cmp : Hp → MV → MV → Option Bool} {q : Nat → Nat → Bool} (hq : ∀ σ x y, cmp σ (.int (.ofNat x)) (.int (.ofNat y)) = some (q x y)) {σ : Hp} {i j : Nat} {cs cs' : List Nat} {b b' nt nt' N : Nat} (W : IsW σ i cs b nt) (W' : IsW σ j cs' b' nt')
    (hl : cs.length ≤ 1000) (hl' : cs'.length ≤ 1000) (hN : max (max (cs.length - 1) b) (max (cs'.length - 1) b') + 1 = N) (hb : N ≤ 1000) :
    ∃ vs t, fDef 7 [0, 1] (B_wit cmp) σ [.ref i, .ref j] = some (.ref σ.length, σ ++ .list vs :: t) ∧ Rows (σ ++ .list vs :: t) vs (witL q (col cs b nt) (col cs' b' nt') N) := by
  have f0 : fDef 7 [0, 1] (B_wit cmp) σ [.ref i, .ref j] = retF (B_wit cmp ⟨σ.length, []⟩ [some (.ref i), some (.ref j), none, none, none, none, none] σ) := by
    unfold fDef
    rw [frN_eq, len_eq]
    rfl
  rw [f0]
  unfold B_wit
  have s1 : cBin addV (cB2 maxV (cIm F_longest_run_of_spaces (cLoc 0) []) (cIm F_longest_run_of_spaces (cLoc 1) [])) (cVal (.int (.ofNat 1))) ⟨σ.length, []⟩ [some (.ref i), some (.ref j), none, none, none, none, none] σ = some (.int (.ofNat N), σ) := by
    have a1 := cB2_eq (f := maxV) (cIm0 (k := ⟨σ.length, []⟩) (ρ := [some (.ref i), some (.ref j), none, none, none, none, none]) (cLoc_eq (i := 0) rfl) W.inst (longest_eq W hl)) (cIm0 (cLoc_eq (i := 1) rfl) W'.inst (longest_eq W' hl'))
    rw [maxN] at a1
    rw [cBin_eq a1 (show cVal (.int (.ofNat 1)) _ _ _ = some (.int (.ofNat 1), σ) from rfl), addN, hN]
  rw [sSeq_cons (sNm_eq s1)]
  have s2 : cLst [] ⟨σ.length, []⟩ (setAt [some (.ref i), some (.ref j), none, none, none, none, none] 2 (some (.int (.ofNat N)))) σ = some (.ref σ.length, σ ++ [.list []]) := by
    show new σ (.list []) = _
    rw [new_eq]
  rw [sSeq_cons (sNm_eq s2)]
  have hr := iR2 (k := ⟨σ.length, []⟩) (ρ := [some (.ref i), some (.ref j), some (.int (.ofNat N)), some (.ref σ.length), none, none, none]) (σ := σ ++ [.list []]) (x := cVal (.int (.ofNat 1))) (y := cBin addV (cLoc 2) (cVal (.int (.ofNat 1)))) (a := 1) (b := N + 1) rfl
    ((cBin_eq (f := addV) (cLoc_eq (i := 2) (v := .int (.ofNat N)) rfl) (show cVal (.int (.ofNat 1)) _ _ _ = some (.int (.ofNat 1), _) from rfl)).trans (addN ..)) (by omega) (by omega)
  obtain ⟨ρ', σ', hf, hI⟩ := forP_inv (body := stepW cmp ⟨σ.length, []⟩) (t := .one 4)
    (I := fun d ρ σ' => ∃ vs t x, σ' = σ ++ .list vs :: t ∧ ρ = [some (.ref i), some (.ref j), some (.int (.ofNat N)), some (.ref σ.length), x, none, none] ∧ Rows σ' vs (witL q (col cs b nt) (col cs' b' nt') d) ∧ d ≤ N)
    ((List.range (N + 1 - 1)).map fun i => .int (.ofNat (1 + i))) 0 (ρ := [some (.ref i), some (.ref j), some (.int (.ofNat N)), some (.ref σ.length), none, none, none]) (σ := σ ++ [.list []]) (by
      rintro d v ρ σ' hv ⟨vs, t, x, rfl, rfl, hw, hd⟩
      obtain ⟨hi, rfl⟩ := range_get hv
      rw [Nat.zero_add] at hw hd ⊢
      have hi : d < N := by simpa using hi
      have hvl : vs.length < 1000000 := by
        have h1 := hw.length
        have h2 := witL_length (q := q) (c := col cs b nt) (c' := col cs' b' nt') d
        omega
      obtain ⟨vs', t', e1, e2⟩ := step_eq hq W W' hl hl' (n := N) (ts := 1 + d) (by omega) (by omega) hw hvl
      refine ⟨_, _, _, bindT_one, e1, vs', t', _, rfl, rfl, ?_, hi⟩
      rw [Nat.add_comm 1 d] at e2
      exact e2) ⟨[], [], none, rfl, rfl, trivial, Nat.zero_le _⟩
  obtain ⟨vs, t, x, rfl, rfl, hw, _⟩ := hI
  refine ⟨vs, t, ?_, ?_⟩
  · exact (congrArg retF (sSeq_cons (l := [sRet (cLoc 3)]) (sFor_plain hr hf))).trans (sRet_eq (cLoc_eq rfl))
  · have : 0 + ((List.range (N + 1 - 1)).map fun i => MV.int (.ofNat (1 + i))).length = N := by simp
    rw [this] at hw
    exact hw
theorem ge_q (σ : Hp) (x y : Nat) : geC σ (.int (.ofNat x)) (.int (.ofNat y)) = some (Nat.ble y x) := by
  show some (W.Z.leB (.ofNat y) (.ofNat x)) = _
  have : W.Z.leB (.ofNat y) (.ofNat x) = Nat.ble y x := by
    rw [Bool.eq_iff_iff, W.Z.leB_iff, W.Z.ble_iff]
    exact Int.ofNat_le
  rw [this]
theorem ne_q (σ : Hp) (x y : Nat) : neC σ (.int (.ofNat x)) (.int (.ofNat y)) = some (!Nat.beq x y) := by
  show some (cnd (W.Z.eqB (.ofNat x) (.ofNat y)) false true) = _
  have : W.Z.eqB (.ofNat x) (.ofNat y) = Nat.beq x y := by
    rw [Bool.eq_iff_iff, W.Z.eqB_iff]
    constructor
    · intro h; rw [Int.ofNat.inj h]; exact Nat.beq_refl _
    · intro h; rw [Nat.eq_of_beq_eq_true h]
  rw [this]
  cases Nat.beq x y <;> rfl
theorem less_eq : F_not_less_witness = fDef 7 [0, 1] (B_wit geC) := rfl
theorem equal_eq : F_not_equal_witness = fDef 7 [0, 1] (B_wit neC) := rfl
end Mine.L2
end

section
set_option maxRecDepth 100000
namespace Mine.L2
open PySem Mine Mine.Pre
theorem rep_rep {α : Type} (x : α) : ∀ n, rep n [x] = List.replicate n x
  | 0 => rfl
  | n + 1 => by
    show app [x] (rep n [x]) = _
    rw [rep_rep x n]
    rfl
/-- count[b] += 1, the list grown before if it must -/
def bump : Nat → List Nat → List Nat
  | 0, [] => [1]
  | 0, a :: r => (a + 1) :: r
  | n + 1, [] => 0 :: bump n []
  | n + 1, a :: r => a :: bump n r
def grown (b : Nat) (cs : List Nat) : List Nat := cs ++ List.replicate (b + 1 - cs.length) 0
theorem grown_lt (b : Nat) (cs : List Nat) : b < (grown b cs).length := by
  unfold grown
  rw [List.length_append, List.length_replicate]
  omega
theorem bump_eq : ∀ (b : Nat) (cs : List Nat), bump b cs = setAt (grown b cs) b ((grown b cs).getD b 0 + 1)
  | 0, [] => rfl
  | 0, a :: r => by simp [bump, grown, setAt]
  | n + 1, [] => by
    have h := bump_eq n []
    have e : grown (n + 1) [] = 0 :: grown n [] := by simp [grown, List.replicate_succ]
    rw [e]
    show 0 :: bump n [] = 0 :: setAt (grown n []) n _
    rw [h]
    simp
  | n + 1, a :: r => by
    have h := bump_eq n r
    have e : grown (n + 1) (a :: r) = a :: grown n r := by
      unfold grown
      rw [List.length_cons, List.cons_append, Nat.add_sub_add_right]
    rw [e]
    show a :: bump n r = a :: setAt (grown n r) n _
    rw [h]
    simp
theorem bump_length (b : Nat) (cs : List Nat) : (bump b cs).length = max cs.length (b + 1) := by
  rw [bump_eq, setAt_length]
  unfold grown
  rw [List.length_append, List.length_replicate]
  exact (Nat.add_comm ..).trans ((Nat.sub_add_eq_max ..).trans (Nat.max_comm ..))
structure Sc where
  cs : List Nat
  b : Nat
  n : Nat
  t : Nat
def stepS (s : Sc) (c : Nat) : Sc := if c = 32 then ⟨s.cs, s.b + 1, s.n + 1, s.t⟩ else ⟨bump s.b s.cs, 0, s.n + 1, s.t + 1⟩
def nL (cs : List Nat) : List MV := cs.map fun x => .int (.ofNat x)
abbrev rI (n : Nat) (s : List Nat) (p : Nat) (st : Sc) (x : Option MV) : Lo := [some (.ref n), some (.str s), some (.str [32]), some (.str [9]), some (.ref p), some (.int (.ofNat st.b)), some (.int (.ofNat st.n)), some (.int (.ofNat st.t)), x, none, none, none]
noncomputable section
def grow : CS := sSeq [sNm 4 (cBin addV (cLoc 4) (cBin mulV (cLst [(cVal (.int (.ofNat 0)))]) (cBin addV (cBin subV (cLoc 5) (cB1 lenV (cLoc 4))) (cVal (.int (.ofNat 1))))))]
def onTab : CS := sSeq [
        sNm 6 (cBin addV (cLoc 6) (cVal (.int (.ofNat 1)))),
        sNm 7 (cBin addV (cLoc 7) (cVal (.int (.ofNat 1)))),
        sIf (tCmp geC (cLoc 5) (cB1 lenV (cLoc 4))) grow (sSeq []),
        sSb (cLoc 4) (cLoc 5) (cBin addV (cSub (cLoc 4) (cLoc 5)) (cVal (.int (.ofNat 1)))),
        sNm 5 (cVal (.int (.ofNat 0)))]
def onChar : CS := sSeq [
    sIf (tCmp eqC (cLoc 8) (cLoc 2)) (sSeq [
      sNm 6 (cBin addV (cLoc 6) (cVal (.int (.ofNat 1)))),
      sNm 5 (cBin addV (cLoc 5) (cVal (.int (.ofNat 1))))]) (sSeq [
      sIf (tCmp eqC (cLoc 8) (cLoc 3)) onTab (sSeq [
        sBrk])])]
end
theorem eqS (σ : Hp) (x y : List Nat) : eqC σ (.str x) (.str y) = some (eqL x y) := rfl
theorem lenLN {σ : Hp} {j : Nat} {x : List MV} (h : σ[j]? = some (.list x)) : lenV σ (.ref j) = some (.int (.ofNat x.length), σ) := lenL_eq (getO_at h)
theorem inc {k : Kx} {ρ : Lo} {σ : Hp} {i n : Nat} (h : getV ρ i = some (.int (.ofNat n))) : cBin addV (cLoc i) (cVal (.int (.ofNat 1))) k ρ σ = some (.int (.ofNat (n + 1)), σ) :=
  (cBin_eq (cLoc_eq h) (show cVal (.int (.ofNat 1)) _ _ _ = some (.int (.ofNat 1), σ) from rfl)).trans (addN ..)
theorem blank_eq {k : Kx} {n p : Nat} {s : List Nat} {st : Sc} {σ : Hp} : onChar k (rI n s p st (some (.str [32]))) σ = some (.next, rI n s p ⟨st.cs, st.b + 1, st.n + 1, st.t⟩ (some (.str [32])), σ) := by
  unfold onChar
  refine sSeq_one ?_
  unfold sIf
  rw [tCmp_eq (cLoc_eq (i := 8) rfl) (cLoc_eq (i := 2) rfl) (eqS ..), bnd_mk]
  show cnd true _ _ = _
  rw [cnd_t]
  exact (sSeq_cons (sNm_eq (inc (i := 6) rfl))).trans (sSeq_one (sNm_eq (inc (i := 5) rfl)))
theorem grow_eq {k : Kx} {n p : Nat} {s : List Nat} {st : Sc} {σ : Hp} {x : Option MV} (hp : σ[p]? = some (.list (nL st.cs))) (hb : st.cs.length ≤ st.b) (hz : st.b ≤ 1000) :
    grow k (rI n s p st x) σ = some (.next, rI n s (σ.length + 2) st x, σ ++ [.list [.int (.ofNat 0)], .list (nL (List.replicate (st.b + 1 - st.cs.length) 0)), .list (nL (grown st.b st.cs))]) := by
  have a1 : cLst [cVal (.int (.ofNat 0))] k (rI n s p st x) σ = some (.ref σ.length, σ ++ [.list [.int (.ofNat 0)]]) := by
    show new σ (.list [.int (.ofNat 0)]) = _
    rw [new_eq]
  have hlen : (nL st.cs).length = st.cs.length := List.length_map ..
  have a2 : cBin addV (cBin subV (cLoc 5) (cB1 lenV (cLoc 4))) (cVal (.int (.ofNat 1))) k (rI n s p st x) (σ ++ [.list [.int (.ofNat 0)]]) = some (.int (.ofNat (st.b + 1 - st.cs.length)), σ ++ [.list [.int (.ofNat 0)]]) := by
    have b1 := (cB1_eq (f := lenV) (cLoc_eq (k := k) (ρ := rI n s p st x) (σ := σ ++ [.list [.int (.ofNat 0)]]) (i := 4) (v := .ref p) rfl)).trans (lenLN (get_app hp))
    have b2 := (cBin_eq (f := subV) (cLoc_eq (i := 5) (v := .int (.ofNat st.b)) rfl) b1).trans (subI_eq ..)
    refine (cBin_eq (f := addV) b2 (show cVal (.int (.ofNat 1)) _ _ _ = some (.int (.ofNat 1), _) from rfl)).trans ((addI_eq ..).trans ?_)
    congr 3
    rw [hlen]
    show (st.b : Int) - (st.cs.length : Int) + 1 = ((st.b + 1 - st.cs.length : Nat) : Int)
    omega
  have a3 : cBin mulV (cLst [(cVal (.int (.ofNat 0)))]) (cBin addV (cBin subV (cLoc 5) (cB1 lenV (cLoc 4))) (cVal (.int (.ofNat 1)))) k (rI n s p st x) σ =
      some (.ref (σ.length + 1), σ ++ [.list [.int (.ofNat 0)], .list (nL (List.replicate (st.b + 1 - st.cs.length) 0))]) := by
    rw [cBin_eq a1 a2]
    unfold mulV
    dsimp only
    rw [show getO (σ ++ [MO.list [.int (.ofNat 0)]]) σ.length = some (.list [.int (.ofNat 0)]) from getO_new (σ := σ) (t := [MO.list [.int (.ofNat 0)]]) (i := 0) rfl]
    dsimp only
    rw [frS_eq, small_nat (by omega), cnd_t, rep_rep, chk_eq _ (by rw [List.length_replicate]; show (st.b + 1 - st.cs.length : Nat) ≤ _; omega), new_app]
    show some (MV.ref (σ.length + 1), σ ++ [MO.list [.int (.ofNat 0)], MO.list (List.replicate (st.b + 1 - st.cs.length) (MV.int (.ofNat 0)))]) = _
    unfold nL
    rw [List.map_replicate]
  unfold grow
  refine sSeq_one ?_
  rw [sNm_eq ((cBin_eq (f := addV) (cLoc_eq (i := 4) (v := .ref p) rfl) a3).trans (addL_eq (getO_at (get_app hp)) (getO_new (σ := σ) (i := 1) rfl) (by unfold nL; simp; omega)))]
  have e : nL st.cs ++ nL (List.replicate (st.b + 1 - st.cs.length) 0) = nL (grown st.b st.cs) := by unfold nL grown; rw [List.map_append]
  rw [e]
  simp [setAt]
theorem put_eq {k : Kx} {σ : Hp} {p i : Nat} {x : List MV} {v : MV} (hp : σ[p]? = some (.list x)) (hm : k.mut p = true) (hi : i < x.length) : setItemV k σ (.ref p) (.int (.ofNat i)) v = some (setAt σ p (.list (setAt x i v))) := by
  unfold setItemV putAt
  show cnd (k.mut p) (match getO σ p with
    | some (.list x) => cnd (Nat.blt i (len x)) (setK x i v fun x => setK σ p (.list x) some) none
    | some (.barr x) => match v with
      | .int (.ofNat c) => cnd (Nat.ble (len x) 1000000) (cnd (Nat.blt c 256) (cnd (Nat.blt i (len x)) (setK x i c fun x => setK σ p (.barr x) some) none) none) none
      | _ => none
    | _ => none) none = _
  rw [hm, cnd_t, getO_at hp]
  dsimp only
  have : Nat.blt i (len x) = true := by rw [len_eq]; exact Nat.ble_eq_true_of_le hi
  rw [this, cnd_t, setK_eq, setK_eq]
theorem sSb_eq {k : Kx} {ρ : Lo} {σ σ₁ σ₂ σ₃ σ₄ : Hp} {x i e : CE} {u v z : MV} (he : e k ρ σ = some (z, σ₁)) (hx : x k ρ σ₁ = some (u, σ₂)) (hi : i k ρ σ₂ = some (v, σ₃)) (h : setItemV k σ₃ u v z = some σ₄) : sSb x i e k ρ σ = some (.next, ρ, σ₄) := by
  unfold sSb
  rw [he, bnd_mk, hx, bnd_mk, hi, bnd_mk, h, bd1_mk]
theorem nL_get {cs : List Nat} {i : Nat} (h : i < cs.length) : (nL cs)[i]? = some (.int (.ofNat (cs.getD i 0))) := by
  unfold nL
  rw [List.getElem?_map, List.getElem?_eq_getElem h, List.getD_eq_getElem?_getD, List.getElem?_eq_getElem h]
  rfl
theorem nL_set : ∀ (cs : List Nat) (i v : Nat), setAt (nL cs) i (.int (.ofNat v)) = nL (setAt cs i v)
  | [], _, _ => rfl
  | _ :: _, 0, _ => rfl
  | a :: cs, i + 1, v => congrArg (MV.int (.ofNat a) :: ·) (nL_set cs i v)
theorem sIf_eq {k : Kx} {ρ : Lo} {σ σ₁ : Hp} {t : CT} {a b : CS} {c : Bool} (h : t k ρ σ = some (c, σ₁)) : sIf t a b k ρ σ = cnd c (a k ρ σ₁) (b k ρ σ₁) := by
  unfold sIf
  rw [h, bnd_mk]
/-- a tab -/
theorem tab_eq {k : Kx} {n p : Nat} {s : List Nat} {st : Sc} {σ u : Hp} (hk : k = ⟨σ.length, []⟩) (hp : u[p]? = some (.list (nL st.cs))) (hz : st.b ≤ 1000) (hp2 : 2 ≤ p) :
    ∃ p' u', onChar k (rI n s (σ.length + p) st (some (.str [9]))) (σ ++ u) = some (.next, rI n s (σ.length + p') ⟨bump st.b st.cs, 0, st.n + 1, st.t + 1⟩ (some (.str [9])), σ ++ u') ∧
      u'[p']? = some (.list (nL (bump st.b st.cs))) ∧ 2 ≤ p' ∧ (∀ i o, i < 2 → u[i]? = some o → u'[i]? = some o) := by
  have hlen : (nL st.cs).length = st.cs.length := List.length_map ..
  have hp1 : (σ ++ u)[σ.length + p]? = some (.list (nL st.cs)) := by rw [List.getElem?_append_right (Nat.le_add_right _ _), Nat.add_sub_cancel_left]; exact hp
  -- the list, grown where it must be
  have hg : ∃ p' u', sIf (tCmp geC (cLoc 5) (cB1 lenV (cLoc 4))) grow (sSeq []) k (rI n s (σ.length + p) ⟨st.cs, st.b, st.n + 1, st.t + 1⟩ (some (.str [9]))) (σ ++ u) = some (.next, rI n s (σ.length + p') ⟨st.cs, st.b, st.n + 1, st.t + 1⟩ (some (.str [9])), σ ++ u') ∧
      u'[p']? = some (.list (nL (grown st.b st.cs))) ∧ 2 ≤ p' ∧ (∀ i o, i < 2 → u[i]? = some o → u'[i]? = some o) := by
    have hc := tCmp_eq (cmp := geC) (cLoc_eq (k := k) (ρ := rI n s (σ.length + p) ⟨st.cs, st.b, st.n + 1, st.t + 1⟩ (some (.str [9]))) (σ := σ ++ u) (i := 5) (v := .int (.ofNat st.b)) rfl) ((cB1_eq (f := lenV) (cLoc_eq (i := 4) (v := .ref (σ.length + p)) rfl)).trans (lenLN hp1)) (ge_q ..)
    rw [hlen] at hc
    rw [sIf_eq hc]
    by_cases hb : st.cs.length ≤ st.b
    · rw [Nat.ble_eq_true_of_le hb, cnd_t]
      have := grow_eq (k := k) (n := n) (p := σ.length + p) (s := s) (st := ⟨st.cs, st.b, st.n + 1, st.t + 1⟩) (σ := σ ++ u) (x := some (.str [9])) hp1 hb hz
      refine ⟨u.length + 2, u ++ [.list [.int (.ofNat 0)], .list (nL (List.replicate (st.b + 1 - st.cs.length) 0)), .list (nL (grown st.b st.cs))], ?_, ?_, by omega, fun i o _ h => get_app h⟩
      · rw [this, List.length_append, List.append_assoc, Nat.add_assoc]
      · rw [List.getElem?_append_right (Nat.le_add_right _ _), Nat.add_sub_cancel_left]; rfl
    · have hf : Nat.ble st.cs.length st.b = false := by
        cases q : Nat.ble st.cs.length st.b with
        | false => rfl
        | true => exact absurd (Nat.le_of_ble_eq_true q) hb
      rw [hf, cnd_f]
      refine ⟨p, u, rfl, ?_, hp2, fun _ _ _ h => h⟩
      have : grown st.b st.cs = st.cs := by
        unfold grown
        rw [show st.b + 1 - st.cs.length = 0 by omega]
        simp
      rw [this]; exact hp
  obtain ⟨p', u', e1, e2, e3, e4⟩ := hg
  have hp3 : (σ ++ u')[σ.length + p']? = some (.list (nL (grown st.b st.cs))) := by rw [List.getElem?_append_right (Nat.le_add_right _ _), Nat.add_sub_cancel_left]; exact e2
  have hlt : st.b < (nL (grown st.b st.cs)).length := by unfold nL; rw [List.length_map]; exact grown_lt ..
  have f1 := (cBin_eq (f := addV) (cSub_eq (cLoc_eq (k := k) (ρ := rI n s (σ.length + p') ⟨st.cs, st.b, st.n + 1, st.t + 1⟩ (some (.str [9]))) (σ := σ ++ u') (i := 4) (v := .ref (σ.length + p')) rfl) (cLoc_eq (i := 5) (v := .int (.ofNat st.b)) rfl) (listItem hp3 (nL_get (grown_lt ..))))
    (show cVal (.int (.ofNat 1)) _ _ _ = some (.int (.ofNat 1), _) from rfl)).trans (addN ..)
  have f2 := sSb_eq (x := cLoc 4) (i := cLoc 5) f1 (cLoc_eq (v := .ref (σ.length + p')) rfl) (cLoc_eq (v := .int (.ofNat st.b)) rfl) (put_eq hp3 (by rw [hk]; exact Kx.mut_of (Nat.le_add_right _ _) rfl) hlt)
  rw [nL_set, ← bump_eq, setAt_app] at f2
  refine ⟨p', setAt u' p' (.list (nL (bump st.b st.cs))), ?_, ?_, e3, fun i o hi h => ?_⟩
  · unfold onChar
    refine sSeq_one ?_
    rw [sIf_eq (tCmp_eq (cLoc_eq (i := 8) rfl) (cLoc_eq (i := 2) rfl) (eqS ..))]
    show cnd false _ _ = _
    rw [cnd_f]
    refine sSeq_one ?_
    rw [sIf_eq (tCmp_eq (cLoc_eq (i := 8) rfl) (cLoc_eq (i := 3) rfl) (eqS ..))]
    show cnd true _ _ = _
    rw [cnd_t]
    unfold onTab
    exact (sSeq_cons (sNm_eq (inc (i := 6) rfl))).trans ((sSeq_cons (sNm_eq (inc (i := 7) rfl))).trans ((sSeq_cons e1).trans ((sSeq_cons f2).trans (sSeq_one (sNm_eq (v := .int (.ofNat 0)) rfl)))))
  · have hl : p' < u'.length := (List.getElem?_eq_some_iff.mp e2).1
    exact Mine.Pre.setAt_get _ _ _ hl
  · rw [setAt_of, if_neg (by omega)]
    exact e4 i o hi h
end Mine.L2
end

section
set_option maxRecDepth 100000
namespace Mine.L2
open PySem Mine Mine.Pre
theorem forP_inv_app {body : Lo → Hp → RS} {t : MT} {I : Nat → Lo → Hp → Prop} : ∀ (xs ys : List MV) (d : Nat) {ρ : Lo} {σ : Hp},
    (∀ i v ρ σ, xs[i]? = some v → I (d + i) ρ σ → ∃ ρ₁ ρ' σ', bindT σ ρ t v = some ρ₁ ∧ body ρ₁ σ = some (.next, ρ', σ') ∧ I (d + i + 1) ρ' σ') → I d ρ σ → ∃ ρ' σ', forP body t (xs ++ ys) ρ σ = forP body t ys ρ' σ' ∧ I (d + xs.length) ρ' σ'
  | [], ys, d, ρ, σ, _, h => ⟨ρ, σ, rfl, h⟩
  | v :: xs, ys, d, ρ, σ, step, h => by
    obtain ⟨ρ₁, ρ₂, σ₂, e1, e2, h2⟩ := step 0 v ρ σ rfl h
    obtain ⟨ρ', σ', e3, h3⟩ := forP_inv_app (body := body) (t := t) (I := I) xs ys (d + 1) (ρ := ρ₂) (σ := σ₂) (fun i v ρ σ e h => by
      obtain ⟨ρ₁, ρ', σ', a, b, c⟩ := step (i + 1) v ρ σ (by simpa using e) (by rw [← Nat.add_assoc, Nat.add_right_comm]; exact h)
      exact ⟨ρ₁, ρ', σ', a, b, by rw [Nat.add_right_comm d 1 i]; rw [← Nat.add_assoc] at c; exact c⟩) h2
    refine ⟨ρ', σ', ?_, by rw [List.length_cons, Nat.add_comm xs.length 1, ← Nat.add_assoc]; exact h3⟩
    show bd1 (bindT σ ρ t v) (fun ρ => turnOn (body ρ σ) (forP body t (xs ++ ys))) = _
    rw [e1, bd1_mk, e2]
    exact e3
theorem setAttr_eq {σ u : Hp} {as : List (Nat × MV)} {i : Nat} {v : MV} (h0 : u[0]? = some (.inst (σ.length + 1))) (h1 : u[1]? = some (.dict as)) (hl : as.length ≤ 100) (hi : i < 5) :
    setAttrV ⟨σ.length, []⟩ (σ ++ u) (.ref σ.length) i v = some (σ ++ setAt u 1 (.dict (putA as i v))) := by
  unfold setAttrV
  dsimp only
  rw [show getO (σ ++ u) σ.length = some (.inst (σ.length + 1)) from getO_new (i := 0) h0]
  dsimp only
  rw [Kx.mut_of (Nat.le_add_right _ _) rfl, cnd_t, getO_new h1]
  dsimp only
  rw [len_eq, Nat.ble_eq_true_of_le hl, cnd_t]
  have : Nat.blt i 5 = true := Nat.ble_eq_true_of_le hi
  rw [this, cnd_t, frS_eq, setK_eq, setAt_app]
theorem sAt_eq {k : Kx} {ρ : Lo} {σ σ₁ σ₂ σ₃ : Hp} {x e : CE} {n : Nat} {u z : MV} (he : e k ρ σ = some (z, σ₁)) (hx : x k ρ σ₁ = some (u, σ₂)) (h : setAttrV k σ₂ u n z = some σ₃) : sAt x n e k ρ σ = some (.next, ρ, σ₃) := by
  unfold sAt
  rw [he, bnd_mk, hx, bnd_mk, h, bd1_mk]
theorem x_eq {k : Kx} {n p : Nat} {s : List Nat} {st : Sc} {σ : Hp} : onChar k (rI n s p st (some (.str [120]))) σ = some (.brk, rI n s p st (some (.str [120])), σ) := by
  unfold onChar
  show andThen (sIf _ _ _ _ _ _) _ = _
  rw [sIf_eq (tCmp_eq (cLoc_eq (i := 8) rfl) (cLoc_eq (i := 2) rfl) (eqS ..))]
  show andThen (cnd false _ _) _ = _
  rw [cnd_f]
  show andThen (andThen (sIf _ _ _ _ _ _) _) _ = _
  rw [sIf_eq (tCmp_eq (cLoc_eq (i := 8) rfl) (cLoc_eq (i := 3) rfl) (eqS ..))]
  rfl
theorem scan_b (w : List Nat) : ∀ (st : Sc), (w.foldl stepS st).b ≤ st.b + w.length ∧ (w.foldl stepS st).cs.length ≤ st.cs.length + st.b + w.length := by
  induction w with
  | nil => intro st; simp
  | cons c w ih =>
    intro st
    have h := ih (stepS st c)
    rw [List.foldl_cons, List.length_cons]
    unfold stepS at h ⊢
    split
    · rename_i q
      rw [if_pos q] at h
      dsimp only at h
      exact ⟨Nat.le_trans h.1 (Nat.le_of_eq (by ac_rfl)), Nat.le_trans h.2 (Nat.le_of_eq (by ac_rfl))⟩
    · rename_i q
      rw [if_neg q] at h
      have hb : (bump st.b st.cs).length ≤ st.cs.length + (st.b + 1) := by rw [bump_length]; exact Nat.max_le.mpr ⟨Nat.le_add_right .., Nat.le_add_left ..⟩
      refine ⟨Nat.le_trans h.1 ?_, Nat.le_trans h.2 (Nat.le_trans (Nat.add_le_add_right hb w.length) (Nat.le_of_eq (by ac_rfl)))⟩
      show 0 + w.length ≤ st.b + (w.length + 1)
      rw [Nat.zero_add]
      exact Nat.le_trans (Nat.le_succ _) (Nat.le_add_left ..)
theorem tuple_eq {σ : Hp} {j : Nat} {x : List MV} (h : σ[j]? = some (.list x)) : tupleV σ (.ref j) = some (.ref σ.length, σ ++ [.tuple x]) := by
  unfold tupleV
  dsimp only
  rw [getO_at h]
  dsimp only
  rw [new_eq]
theorem tup2_eq {k : Kx} {ρ : Lo} {σ σ₁ σ₂ : Hp} {x y : CE} {u v : MV} (h : x k ρ σ = some (u, σ₁)) (h' : y k ρ σ₁ = some (v, σ₂)) : cTup [x, y] k ρ σ = some (.ref σ₂.length, σ₂ ++ [.tuple [u, v]]) := by
  unfold cTup
  have e : evs [x, y] k ρ σ = some ([u, v], σ₂) := by
    show bnd (x k ρ σ) (fun v σ => bnd (bnd (y k ρ σ) fun v σ => bnd (some (([] : List MV), σ)) fun vs σ => some (v :: vs, σ)) fun vs σ => some (v :: vs, σ)) = _
    rw [h, bnd_mk, h']
    rfl
  rw [e, bnd_mk, new_eq]
theorem init_eq {σ : Hp} {w rest : List Nat} (hw : ∀ c ∈ w, c = 32 ∨ c = 9) (hl : w.length ≤ 900) :
    ∃ t, F_init σ [.str (w ++ 120 :: rest)] = some (.ref σ.length, σ ++ t) ∧ IsW (σ ++ t) σ.length (w.foldl stepS ⟨[], 0, 0, 0⟩).cs (w.foldl stepS ⟨[], 0, 0, 0⟩).b (w.foldl stepS ⟨[], 0, 0, 0⟩).t := by
  have f0 : F_init σ [.str (w ++ 120 :: rest)] = fNew.made σ.length (retF (B_init ⟨σ.length, []⟩ [some (.ref σ.length), some (.str (w ++ 120 :: rest)), none, none, none, none, none, none, none, none, none, none] (σ ++ [.inst (σ.length + 1), .dict []]))) := by
    unfold F_init fNew
    rw [frN_eq, frN_eq, frS_eq, app_eq, len_eq]
    rfl
  have s1 : sAt (cLoc 0) 0 (cLoc 1) ⟨σ.length, []⟩ [some (.ref σ.length), some (.str (w ++ 120 :: rest)), none, none, none, none, none, none, none, none, none, none] (σ ++ [.inst (σ.length + 1), .dict []]) = some (.next, _, σ ++ [.inst (σ.length + 1), .dict [(0, .str (w ++ 120 :: rest))]]) :=
    sAt_eq (cLoc_eq (v := .str (w ++ 120 :: rest)) rfl) (cLoc_eq (v := .ref σ.length) rfl) (setAttr_eq (u := [.inst (σ.length + 1), .dict []]) rfl rfl (by decide) (by decide))
  have s2 : sTp [2, 3] (cTup [(cVal (.str [32])), (cVal (.str [9]))]) ⟨σ.length, []⟩ [some (.ref σ.length), some (.str (w ++ 120 :: rest)), none, none, none, none, none, none, none, none, none, none] (σ ++ [.inst (σ.length + 1), .dict [(0, .str (w ++ 120 :: rest))]]) =
      some (.next, [some (.ref σ.length), some (.str (w ++ 120 :: rest)), some (.str [32]), some (.str [9]), none, none, none, none, none, none, none, none], σ ++ [.inst (σ.length + 1), .dict [(0, .str (w ++ 120 :: rest))], .tuple [.str [32], .str [9]]]) := by
    unfold sTp
    rw [tup2_eq (u := .str [32]) (v := .str [9]) rfl rfl, bnd_mk]
    unfold unpackV
    dsimp only
    rw [getO_at (o := .tuple [.str [32], .str [9]]) (by rw [List.getElem?_append_right (Nat.le_refl _), Nat.sub_self]; rfl)]
    simp [setMany, setK_eq, setAt, bd1_mk]
  have s3 : sNm 4 (cLst []) ⟨σ.length, []⟩ [some (.ref σ.length), some (.str (w ++ 120 :: rest)), some (.str [32]), some (.str [9]), none, none, none, none, none, none, none, none] (σ ++ [.inst (σ.length + 1), .dict [(0, .str (w ++ 120 :: rest))], .tuple [.str [32], .str [9]]]) =
      some (.next, [some (.ref σ.length), some (.str (w ++ 120 :: rest)), some (.str [32]), some (.str [9]), some (.ref (σ.length + 3)), none, none, none, none, none, none, none], σ ++ [.inst (σ.length + 1), .dict [(0, .str (w ++ 120 :: rest))], .tuple [.str [32], .str [9]], .list []]) :=
    sNm_eq (show new _ _ = _ from new_app ..)
  have s4 : sMul [5, 6, 7] (cVal (.int (.ofNat 0))) ⟨σ.length, []⟩ [some (.ref σ.length), some (.str (w ++ 120 :: rest)), some (.str [32]), some (.str [9]), some (.ref (σ.length + 3)), none, none, none, none, none, none, none] (σ ++ [.inst (σ.length + 1), .dict [(0, .str (w ++ 120 :: rest))], .tuple [.str [32], .str [9]], .list []]) =
      some (.next, rI σ.length (w ++ 120 :: rest) (σ.length + 3) ⟨[], 0, 0, 0⟩ none, σ ++ [.inst (σ.length + 1), .dict [(0, .str (w ++ 120 :: rest))], .tuple [.str [32], .str [9]], .list []]) := rfl
  have hit : iE (cAttr (cLoc 0) 0) ⟨σ.length, []⟩ (rI σ.length (w ++ 120 :: rest) (σ.length + 3) ⟨[], 0, 0, 0⟩ none) (σ ++ [.inst (σ.length + 1), .dict [(0, .str (w ++ 120 :: rest))], .tuple [.str [32], .str [9]], .list []]) =
      some (.plain none ((w.map fun c => MV.str [c]) ++ (MV.str [120] :: rest.map fun c => MV.str [c])), σ ++ [.inst (σ.length + 1), .dict [(0, .str (w ++ 120 :: rest))], .tuple [.str [32], .str [9]], .list []]) := by
    have ha : getAttrV (σ ++ [MO.inst (σ.length + 1), .dict [(0, .str (w ++ 120 :: rest))], .tuple [.str [32], .str [9]], .list []]) (.ref σ.length) 0 = some (.str (w ++ 120 :: rest)) := by
      unfold getAttrV
      dsimp only
      rw [show getO (σ ++ [MO.inst (σ.length + 1), .dict [(0, .str (w ++ 120 :: rest))], .tuple [.str [32], .str [9]], .list []]) σ.length = some (.inst (σ.length + 1)) from getO_new (i := 0) rfl]
      dsimp only
      rw [getO_new (i := 1) rfl]
      rfl
    unfold iE
    rw [cAttr_eq (cLoc_eq (v := .ref σ.length) rfl) ha, bnd_mk]
    have : itemsV (σ ++ [MO.inst (σ.length + 1), .dict [(0, .str (w ++ 120 :: rest))], .tuple [.str [32], .str [9]], .list []]) (.str (w ++ 120 :: rest)) = some (none, (w.map fun c => MV.str [c]) ++ (MV.str [120] :: rest.map fun c => MV.str [c])) := by
      show frVs _ _ = _
      rw [frVs_eq, List.map_append, List.map_cons]
    rw [this, bnd_mk]
  obtain ⟨ρ', σ', e5, x, p, u, hσ, hρ, hu, hp2, h0, h1⟩ := forP_inv_app (body := onChar ⟨σ.length, []⟩) (t := .one 8)
    (I := fun d ρ σ' => ∃ x p u, σ' = σ ++ u ∧ ρ = rI σ.length (w ++ 120 :: rest) (σ.length + p) ((w.take d).foldl stepS ⟨[], 0, 0, 0⟩) x ∧ u[p]? = some (.list (nL ((w.take d).foldl stepS ⟨[], 0, 0, 0⟩).cs)) ∧ 2 ≤ p ∧ u[0]? = some (.inst (σ.length + 1)) ∧ u[1]? = some (.dict [(0, .str (w ++ 120 :: rest))]))
    (w.map fun c => MV.str [c]) (MV.str [120] :: rest.map fun c => MV.str [c]) 0
    (ρ := rI σ.length (w ++ 120 :: rest) (σ.length + 3) ⟨[], 0, 0, 0⟩ none) (σ := σ ++ [.inst (σ.length + 1), .dict [(0, .str (w ++ 120 :: rest))], .tuple [.str [32], .str [9]], .list []]) (by
      rintro d v ρ σ' hv ⟨x, p, u, rfl, rfl, hu, hp2, h0, h1⟩
      rw [Nat.zero_add] at hu ⊢
      rw [List.getElem?_map, Option.map_eq_some_iff] at hv
      obtain ⟨c, hc, rfl⟩ := hv
      have hd := (List.getElem?_eq_some_iff.mp hc).1
      have ht : w.take (d + 1) = w.take d ++ [c] := by rw [List.take_add_one, hc]; rfl
      rw [ht, List.foldl_append]
      generalize hst : (w.take d).foldl stepS ⟨[], 0, 0, 0⟩ = st at hu ⊢
      have hb : st.b ≤ 1000 := by
        have := (scan_b (w.take d) ⟨[], 0, 0, 0⟩).1
        rw [hst] at this
        simp at this
        omega
      rcases hw c (List.mem_of_getElem? hc) with rfl | rfl
      · exact ⟨_, _, _, bindT_one, blank_eq, _, p, u, rfl, rfl, hu, hp2, h0, h1⟩
      · obtain ⟨p', u', e1, e2, e3, e4⟩ := tab_eq (n := σ.length) (s := w ++ 120 :: rest) rfl hu hb hp2
        exact ⟨_, _, _, bindT_one, e1, _, p', u', rfl, rfl, e2, e3, e4 0 _ (by decide) h0, e4 1 _ (by decide) h1⟩)
    ⟨none, 3, _, rfl, rfl, rfl, by decide, rfl, rfl⟩
  rw [Nat.zero_add, List.length_map, List.take_length] at hρ hu
  generalize hst : w.foldl stepS ⟨[], 0, 0, 0⟩ = st at hρ hu ⊢
  subst hσ hρ
  have s5 := sFor_plain (k := ⟨σ.length, []⟩) (c := onChar) hit (e5.trans (forP_brk bindT_one x_eq))
  have hpl : (σ ++ u)[σ.length + p]? = some (.list (nL st.cs)) := by rw [List.getElem?_append_right (Nat.le_add_right _ _), Nat.add_sub_cancel_left]; exact hu
  have g : ∀ {i v as} {u' : Hp}, u'[1]? = some (.dict as) → (setAt u' 1 (.dict (putA as i v)))[1]? = some (.dict (putA as i v)) := fun h => Mine.Pre.setAt_get _ _ _ (List.getElem?_eq_some_iff.mp h).1
  have g0 : ∀ {v o} {u' : Hp} {q : Nat}, q ≠ 1 → u'[q]? = some o → (setAt u' 1 v)[q]? = some o := fun hq h => by rw [setAt_of, if_neg (fun z => hq z.1.symm)]; exact h
  -- the rest of the attributes
  have s6 := sAt_eq (n := 1) (cLoc_eq (k := ⟨σ.length, []⟩) (ρ := rI σ.length (w ++ 120 :: rest) (σ.length + p) st (some (.str [120]))) (σ := σ ++ u) (i := 6) (v := .int (.ofNat st.n)) rfl) (cLoc_eq (i := 0) (v := .ref σ.length) rfl) (setAttr_eq h0 h1 (Nat.le_of_ble_eq_true rfl) (by decide))
  generalize hu1 : setAt u 1 (.dict (putA [(0, .str (w ++ 120 :: rest))] 1 (.int (.ofNat st.n)))) = u1 at s6
  have h01 : u1[0]? = some (.inst (σ.length + 1)) := hu1 ▸ g0 (by decide) h0
  have h11 := hu1 ▸ g (i := 1) (v := .int (.ofNat st.n)) h1
  have hp1 : u1[p]? = some (.list (nL st.cs)) := hu1 ▸ g0 (by omega) hu
  have s7 := sAt_eq (n := 2) (cLoc_eq (k := ⟨σ.length, []⟩) (ρ := rI σ.length (w ++ 120 :: rest) (σ.length + p) st (some (.str [120]))) (σ := σ ++ u1) (i := 7) (v := .int (.ofNat st.t)) rfl) (cLoc_eq (i := 0) (v := .ref σ.length) rfl) (setAttr_eq h01 h11 (Nat.le_of_ble_eq_true rfl) (by decide))
  generalize hu2 : setAt u1 1 _ = u2 at s7
  have h02 : u2[0]? = some (.inst (σ.length + 1)) := hu2 ▸ g0 (by decide) h01
  have h12 := hu2 ▸ g (i := 2) (v := .int (.ofNat st.t)) h11
  have hp2' : u2[p]? = some (.list (nL st.cs)) := hu2 ▸ g0 (by omega) hp1
  have hpl2 : (σ ++ u2)[σ.length + p]? = some (.list (nL st.cs)) := by rw [List.getElem?_append_right (Nat.le_add_right _ _), Nat.add_sub_cancel_left]; exact hp2'
  have a1 := (cB1_eq (f := tupleV) (cLoc_eq (k := ⟨σ.length, []⟩) (ρ := rI σ.length (w ++ 120 :: rest) (σ.length + p) st (some (.str [120]))) (σ := σ ++ u2) (i := 4) (v := .ref (σ.length + p)) rfl)).trans (tuple_eq hpl2)
  have a2 := tup2_eq a1 (cLoc_eq (i := 5) (v := .int (.ofNat st.b)) rfl)
  rw [List.append_assoc, List.append_assoc] at a2
  have s8 := sAt_eq (n := 3) a2 (cLoc_eq (i := 0) (v := .ref σ.length) rfl) (setAttr_eq (get_app (get_app h02)) (get_app (get_app h12)) (Nat.le_of_ble_eq_true rfl) (by decide))
  generalize hu3 : setAt (u2 ++ _ ++ _) 1 _ = u3 at s8
  have hc3 : u3[u2.length]? = some (.tuple (nL st.cs)) := by
    have h1l := (List.getElem?_eq_some_iff.mp h12).1
    rw [← hu3]
    exact g0 (by omega) (by simp)
  have ht3 : u3[u2.length + 1]? = some (.tuple [.ref (σ ++ u2).length, .int (.ofNat st.b)]) := by
    have h1l := (List.getElem?_eq_some_iff.mp h12).1
    rw [← hu3]
    exact g0 (by omega) (by simp)
  have h03 : u3[0]? = some (.inst (σ.length + 1)) := hu3 ▸ g0 (by decide) (get_app (get_app h02))
  have h13 := hu3 ▸ g (i := 3) (get_app (get_app h12))
  have hp3 : u3[p]? = some (.list (nL st.cs)) := hu3 ▸ g0 (by omega) (get_app (get_app hp2'))
  have hpl3 : (σ ++ u3)[σ.length + p]? = some (.list (nL st.cs)) := by rw [List.getElem?_append_right (Nat.le_add_right _ _), Nat.add_sub_cancel_left]; exact hp3
  have a4 : ∃ c, cCmp leC (cB1 lenV (cLoc 4)) (cVal (.int (.ofNat 1))) ⟨σ.length, []⟩ (rI σ.length (w ++ 120 :: rest) (σ.length + p) st (some (.str [120]))) (σ ++ u3) = some (.bool c, σ ++ u3) := by
    unfold cCmp
    rw [(cB1_eq (f := lenV) (cLoc_eq (i := 4) (v := .ref (σ.length + p)) rfl)).trans (lenLN hpl3), bnd_mk]
    exact ⟨W.Z.leB (.ofNat (nL st.cs).length) (.ofNat 1), frP_eq (W.Z.leB (.ofNat (nL st.cs).length) (.ofNat 1)) fun c => some (MV.bool c, σ ++ u3)⟩
  obtain ⟨c, a4⟩ := a4
  have s9 := sAt_eq (n := 4) a4 (cLoc_eq (i := 0) (v := .ref σ.length) rfl) (setAttr_eq h03 h13 (Nat.le_of_ble_eq_true rfl) (by decide))
  generalize hu4 : setAt u3 1 _ = u4 at s9
  have h1l := (List.getElem?_eq_some_iff.mp h12).1
  have h04 : u4[0]? = some (.inst (σ.length + 1)) := hu4 ▸ g0 (by decide) h03
  have h14 := hu4 ▸ g (i := 4) (v := .bool c) h13
  have hc4 : u4[u2.length]? = some (.tuple (nL st.cs)) := hu4 ▸ g0 (by omega) hc3
  have ht4 : u4[u2.length + 1]? = some (.tuple [.ref (σ ++ u2).length, .int (.ofNat st.b)]) := hu4 ▸ g0 (by omega) ht3
  have e : B_init ⟨σ.length, []⟩ [some (.ref σ.length), some (.str (w ++ 120 :: rest)), none, none, none, none, none, none, none, none, none, none] (σ ++ [.inst (σ.length + 1), .dict []]) = some (.next, rI σ.length (w ++ 120 :: rest) (σ.length + p) st (some (.str [120])), σ ++ u4) :=
    (sSeq_cons s1).trans ((sSeq_cons s2).trans ((sSeq_cons s3).trans ((sSeq_cons s4).trans ((sSeq_cons s5).trans ((sSeq_cons s6).trans ((sSeq_cons s7).trans ((sSeq_cons s8).trans (sSeq_one s9))))))))
  have hr : ∀ {q : Nat} {o : MO}, u4[q]? = some o → (σ ++ u4)[σ.length + q]? = some o := fun h => by rw [List.getElem?_append_right (Nat.le_add_right _ _), Nat.add_sub_cancel_left]; exact h
  refine ⟨u4, ?_, σ.length + 1, σ.length + (u2.length + 1), (σ ++ u2).length, _, hr h04, hr h14, rfl, ?_, hr ht4, ?_⟩
  · rw [f0, e]
    rfl
  · show some (MV.ref (σ ++ (u2 ++ [MO.tuple (nL st.cs)])).length) = _
    rw [List.length_append, List.length_append]
    rfl
  · rw [List.length_append]
    exact hr hc4
end Mine.L2
end

section
set_option maxRecDepth 100000
namespace Mine.L2
open PySem Mine Mine.Pre
/-- five numbers, rising, each below ten -/
structure Five (r : List Nat) : Prop where
  len : r.length = 5
  le : ∀ i, r.getD i 0 ≤ 9
  up : ∀ i j, i < j → j < 5 → r.getD i 0 ≤ r.getD j 0
def bl (n : Nat) : List Nat := List.replicate n 32
def g1 (r : List Nat) (late : Nat) : List Nat := bl (r.getD late 0) ++ [9, 9]
def g2 (r : List Nat) (late soon : Nat) : List Nat := bl (r.getD soon 0) ++ [9] ++ bl (r.getD late 0 - r.getD soon 0) ++ [9]
def row1 (r : List Nat) (late : Nat) : Nat → List Nat
  | 0 => []
  | s + 1 => row1 r late s ++ g1 r late
def row2 (r : List Nat) (late : Nat) : Nat → List Nat
  | 0 => []
  | s + 1 => row2 r late s ++ g2 r late s
def all1 (r : List Nat) : Nat → List Nat
  | 0 => []
  | d + 1 => all1 r d ++ row1 r d d
def all2 (r : List Nat) : Nat → List Nat
  | 0 => []
  | d + 1 => all2 r d ++ row2 r d d
theorem row1_len {r : List Nat} (F : Five r) (late : Nat) : ∀ s, (row1 r late s).length ≤ 20 * s
  | 0 => Nat.le_refl _
  | s + 1 => by
    have := row1_len F late s
    have := F.le late
    unfold row1 g1 bl
    simp only [List.length_append, List.length_replicate, List.length_cons, List.length_nil]
    omega
theorem row2_len {r : List Nat} (F : Five r) (late : Nat) : ∀ s, (row2 r late s).length ≤ 20 * s
  | 0 => Nat.le_refl _
  | s + 1 => by
    have := row2_len F late s
    have := F.le late
    have := F.le s
    unfold row2 g2 bl
    simp only [List.length_append, List.length_replicate, List.length_cons, List.length_nil]
    omega
theorem all1_len {r : List Nat} (F : Five r) : ∀ d, d ≤ 5 → (all1 r d).length ≤ 100 * d
  | 0, _ => Nat.le_refl _
  | d + 1, h => by
    have := all1_len F d (by omega)
    have := row1_len F d d
    unfold all1
    rw [List.length_append]
    omega
theorem all2_len {r : List Nat} (F : Five r) : ∀ d, d ≤ 5 → (all2 r d).length ≤ 100 * d
  | 0, _ => Nat.le_refl _
  | d + 1, h => by
    have := all2_len F d (by omega)
    have := row2_len F d d
    unfold all2
    rw [List.length_append]
    omega
theorem mulS (σ : Hp) (n : Nat) (h : n ≤ 1000) : mulV σ (.str [32]) (.int (.ofNat n)) = some (.str (bl n), σ) := by
  show frS (rep (Int.ofNat n).toNat [32]) (fun z => cnd (small (.ofNat n)) (chk z (some (MV.str z, σ))) none) = _
  rw [frS_eq, small_nat (by omega), cnd_t, rep_rep, chk_eq _ (by rw [List.length_replicate]; show n ≤ _; omega)]
  rfl
theorem addS (σ : Hp) (x y : List Nat) (h : x.length + y.length ≤ 1000000) : addV σ (.str x) (.str y) = some (.str (x ++ y), σ) := by
  show frS (app x y) (fun z => chk z (some (MV.str z, σ))) = _
  rw [frS_eq, app_eq, chk_eq _ (by simpa using h)]
theorem sAugS_eq {k : Kx} {ρ : Lo} {σ σ' : Hp} {i : Nat} {x y : List Nat} {e : CE} (hx : getV ρ i = some (.str x)) (he : e k ρ σ = some (.str y, σ')) (h : x.length + y.length ≤ 1000000) : sAugN i iadV e k ρ σ = some (.next, setAt ρ i (some (.str (x ++ y))), σ') := by
  unfold sAugN
  rw [hx, bd1_mk, he, bnd_mk]
  show bnd (frS (app x y) fun z => chk z (some (MV.str z, σ'))) _ = _
  rw [frS_eq, app_eq, chk_eq _ (by simpa using h), bnd_mk, setK_eq]
noncomputable section
def leadsStep : CS := sSeq [
      sAugN 1 iadV (cBin addV (cBin mulV (cVal (.str [32])) (cSub (cLoc 0) (cLoc 3))) (cVal (.str [9, 9]))),
      sAugN 2 iadV (cBin addV (cBin addV (cBin addV (cBin mulV (cVal (.str [32])) (cSub (cLoc 0) (cLoc 4))) (cVal (.str [9]))) (cBin mulV (cVal (.str [32])) (cBin subV (cSub (cLoc 0) (cLoc 3)) (cSub (cLoc 0) (cLoc 4))))) (cVal (.str [9])))]
end
theorem leadsStep_eq {r : List Nat} (F : Five r) {σ : Hp} {j late soon : Nat} {x y : List Nat} {k : Kx} (hj : σ[j]? = some (.list (nL r))) (h1 : soon < late) (h2 : late < 5) (hx : x.length ≤ 1000) (hy : y.length ≤ 1000) :
    leadsStep k [some (.ref j), some (.str x), some (.str y), some (.int (.ofNat late)), some (.int (.ofNat soon)), none] σ = some (.next, [some (.ref j), some (.str (x ++ g1 r late)), some (.str (y ++ g2 r late soon)), some (.int (.ofNat late)), some (.int (.ofNat soon)), none], σ) := by
  have hl := F.len
  have b1 := F.le late
  have b2 := F.le soon
  have b3 := F.up soon late h1 h2
  have i1 : ∀ {x y : List Nat}, cSub (cLoc 0) (cLoc 3) k [some (.ref j), some (.str x), some (.str y), some (.int (.ofNat late)), some (.int (.ofNat soon)), none] σ = some (.int (.ofNat (r.getD late 0)), σ) :=
    cSub_eq (cLoc_eq (v := .ref j) rfl) (cLoc_eq (v := .int (.ofNat late)) rfl) (listItem hj (nL_get (by omega)))
  have i2 : ∀ {x y : List Nat}, cSub (cLoc 0) (cLoc 4) k [some (.ref j), some (.str x), some (.str y), some (.int (.ofNat late)), some (.int (.ofNat soon)), none] σ = some (.int (.ofNat (r.getD soon 0)), σ) :=
    cSub_eq (cLoc_eq (v := .ref j) rfl) (cLoc_eq (v := .int (.ofNat soon)) rfl) (listItem hj (nL_get (by omega)))
  have lb : ∀ n, (bl n).length = n := fun n => List.length_replicate ..
  have e1 := (cBin_eq (f := addV) ((cBin_eq (f := mulV) (show cVal (.str [32]) _ _ _ = some (.str [32], σ) from rfl) (i1 (x := x) (y := y))).trans (mulS _ _ (by omega))) (show cVal (.str [9, 9]) _ _ _ = some (.str [9, 9], σ) from rfl)).trans (addS _ _ _ (by simp only [List.length_append, List.length_cons, List.length_nil, lb]; omega))
  have s1 := sAugS_eq (i := 1) (x := x) (k := k) (ρ := [some (.ref j), some (.str x), some (.str y), some (.int (.ofNat late)), some (.int (.ofNat soon)), none]) rfl e1 (by simp only [List.length_append, List.length_cons, List.length_nil, lb]; omega)
  have d1 : cBin subV (cSub (cLoc 0) (cLoc 3)) (cSub (cLoc 0) (cLoc 4)) k [some (.ref j), some (.str (x ++ g1 r late)), some (.str y), some (.int (.ofNat late)), some (.int (.ofNat soon)), none] σ = some (.int (.ofNat (r.getD late 0 - r.getD soon 0)), σ) := by
    refine (cBin_eq (f := subV) i1 i2).trans ((subI_eq ..).trans ?_)
    congr 3
    show ((r.getD late 0 : Nat) : Int) - ((r.getD soon 0 : Nat) : Int) = ((r.getD late 0 - r.getD soon 0 : Nat) : Int)
    omega
  have e2 := (cBin_eq (f := addV) ((cBin_eq (f := addV) ((cBin_eq (f := addV) ((cBin_eq (f := mulV) (show cVal (.str [32]) _ _ _ = some (.str [32], σ) from rfl) (i2 (x := x ++ g1 r late) (y := y))).trans (mulS _ _ (by omega))) (show cVal (.str [9]) _ _ _ = some (.str [9], σ) from rfl)).trans (addS _ _ _ (by simp only [List.length_append, List.length_cons, List.length_nil, lb]; omega)))
    ((cBin_eq (f := mulV) (show cVal (.str [32]) _ _ _ = some (.str [32], σ) from rfl) d1).trans (mulS _ _ (by omega)))).trans (addS _ _ _ (by simp only [List.length_append, List.length_cons, List.length_nil, lb]; omega))) (show cVal (.str [9]) _ _ _ = some (.str [9], σ) from rfl)).trans (addS _ _ _ (by simp only [List.length_append, List.length_cons, List.length_nil, lb]; omega))
  have s2 := sAugS_eq (i := 2) (x := y) (k := k) (ρ := [some (.ref j), some (.str (x ++ g1 r late)), some (.str y), some (.int (.ofNat late)), some (.int (.ofNat soon)), none]) rfl e2 (by simp only [List.length_append, List.length_cons, List.length_nil, lb]; omega)
  unfold leadsStep
  exact (sSeq_cons s1).trans (sSeq_one s2)
theorem iR1 {k : Kx} {ρ : Lo} {σ σ₁ : Hp} {x : CE} {b : Nat} (h : x k ρ σ = some (.int (.ofNat b), σ₁)) (hb : b < 1073741824) : iR [x] k ρ σ = some (.plain none ((List.range b).map fun i => .int (.ofNat i)), σ₁) := by
  have e : evs [x] k ρ σ = some ([.int (.ofNat b)], σ₁) := by
    show bnd (x k ρ σ) (fun v σ => bnd (some (([] : List MV), σ)) fun vs σ => some (v :: vs, σ)) = _
    rw [h]
    rfl
  unfold iR
  rw [e, bnd_mk]
  show cnd (small (.ofNat b)) (frVs (rangeL 0 (.ofNat b) 1) fun z => some (Its.plain none z, σ₁)) none = _
  rw [small_nat hb, cnd_t, frVs_eq, rangeL_eq]
  have : ((Int.ofNat b) - (0 : Int)).toNat = b := by
    show ((b : Int) - 0).toNat = _
    omega
  rw [this]
  congr 3
  refine List.map_congr_left fun i _ => ?_
  show MV.int _ = MV.int _
  congr 1
  show (0 : Int) + (i : Int) = (i : Int)
  omega
theorem leads_eq {r : List Nat} (F : Five r) {σ : Hp} {j : Nat} (hj : σ[j]? = some (.list (nL r))) : F_law_leads σ [.ref j] = some (.ref (σ.length + 1), σ ++ [.tuple [.str [], .str []], .tuple [.str (all1 r 5), .str (all2 r 5)]]) := by
  have f0 : F_law_leads σ [.ref j] = retF (B_law_leads ⟨σ.length, []⟩ [some (.ref j), none, none, none, none, none] σ) := by
    unfold F_law_leads fDef
    rw [frN_eq, len_eq]
    rfl
  have s1 : sTp [1, 2] (cTup [(cVal (.str [])), (cVal (.str []))]) ⟨σ.length, []⟩ [some (.ref j), none, none, none, none, none] σ = some (.next, [some (.ref j), some (.str []), some (.str []), none, none, none], σ ++ [.tuple [.str [], .str []]]) := by
    unfold sTp
    rw [tup2_eq (u := .str []) (v := .str []) rfl rfl, bnd_mk]
    unfold unpackV
    dsimp only
    rw [show getO (σ ++ [MO.tuple [.str [], .str []]]) σ.length = some (.tuple [.str [], .str []]) from getO_new (i := 0) rfl]
    rfl
  have hj' : (σ ++ [MO.tuple [.str [], .str []]])[j]? = some (.list (nL r)) := get_app hj
  have hr := iR1 (k := ⟨σ.length, []⟩) (ρ := [some (.ref j), some (.str []), some (.str []), none, none, none]) (σ := σ ++ [.tuple [.str [], .str []]]) (x := cVal (.int (.ofNat 5))) (b := 5) rfl (by decide)
  obtain ⟨ρ', σ', hf, hI⟩ := forP_inv (body := (sSeq [sFor (.one 4) (iR [(cLoc 3)]) leadsStep]) ⟨σ.length, []⟩) (t := .one 3)
    (I := fun d ρ σ' => σ' = σ ++ [.tuple [.str [], .str []]] ∧ d ≤ 5 ∧ ∃ u v, ρ = [some (.ref j), some (.str (all1 r d)), some (.str (all2 r d)), u, v, none])
    ((List.range 5).map fun i => .int (.ofNat i)) 0 (ρ := [some (.ref j), some (.str []), some (.str []), none, none, none]) (σ := σ ++ [.tuple [.str [], .str []]]) (by
      rintro d v ρ σ' hv ⟨rfl, hd, u, v', rfl⟩
      obtain ⟨hi, rfl⟩ := range_get hv
      rw [Nat.zero_add] at hd ⊢
      have hr' := iR1 (k := ⟨σ.length, []⟩) (ρ := [some (.ref j), some (.str (all1 r d)), some (.str (all2 r d)), some (.int (.ofNat d)), v', none]) (σ := σ ++ [.tuple [.str [], .str []]]) (x := cLoc 3) (b := d) (cLoc_eq rfl) (by omega)
      obtain ⟨ρ₂, σ₂, hf₂, hI₂⟩ := forP_inv (body := leadsStep ⟨σ.length, []⟩) (t := .one 4)
        (I := fun s ρ σ' => σ' = σ ++ [.tuple [.str [], .str []]] ∧ s ≤ d ∧ ∃ v, ρ = [some (.ref j), some (.str (all1 r d ++ row1 r d s)), some (.str (all2 r d ++ row2 r d s)), some (.int (.ofNat d)), v, none])
        ((List.range d).map fun i => .int (.ofNat i)) 0 (ρ := [some (.ref j), some (.str (all1 r d)), some (.str (all2 r d)), some (.int (.ofNat d)), v', none]) (σ := σ ++ [.tuple [.str [], .str []]]) (by
          rintro s v ρ σ' hv ⟨rfl, hs, v', rfl⟩
          obtain ⟨hi', rfl⟩ := range_get hv
          rw [Nat.zero_add] at hs ⊢
          have l1 := all1_len F d hd
          have l2 := all2_len F d hd
          have l3 := row1_len F d s
          have l4 := row2_len F d s
          have := leadsStep_eq (k := ⟨σ.length, []⟩) F hj' hi' hi (x := all1 r d ++ row1 r d s) (y := all2 r d ++ row2 r d s) (by rw [List.length_append]; omega) (by rw [List.length_append]; omega)
          rw [List.append_assoc, List.append_assoc] at this
          exact ⟨_, _, _, bindT_one, this, rfl, hi', _, rfl⟩) ⟨rfl, Nat.zero_le _, v', by simp [row1, row2]⟩
      obtain ⟨rfl, _, v₂, rfl⟩ := hI₂
      rw [Nat.zero_add, List.length_map, List.length_range] at hf₂
      exact ⟨_, _, _, bindT_one, sSeq_one (sFor_plain hr' hf₂), rfl, hi, _, _, rfl⟩) ⟨rfl, Nat.zero_le _, none, none, rfl⟩
  obtain ⟨rfl, _, u, v, rfl⟩ := hI
  rw [Nat.zero_add, List.length_map, List.length_range] at hf
  rw [f0]
  have e := tup2_eq (k := ⟨σ.length, []⟩) (cLoc_eq (ρ := [some (.ref j), some (.str (all1 r 5)), some (.str (all2 r 5)), u, v, none]) (σ := σ ++ [.tuple [.str [], .str []]]) (i := 1) rfl) (cLoc_eq (i := 2) rfl)
  have e5 : B_law_leads ⟨σ.length, []⟩ [some (.ref j), none, none, none, none, none] σ = _ := (sSeq_cons s1).trans (sSeq_cons (sFor_plain hr hf))
  rw [e5, sRet_eq e]
  simp
end Mine.L2
end

section
set_option maxRecDepth 100000
namespace Mine.L2
open PySem Mine Mine.Pre
theorem flat_len {w : Nat} : ∀ {ws : List (List Nat)}, (∀ x ∈ ws, x.length = w) → ws.flatten.length = ws.length * w
  | [], _ => by simp
  | x :: ws, h => by
    rw [List.flatten_cons, List.length_append, h x List.mem_cons_self, flat_len fun y hy => h y (List.mem_cons_of_mem _ hy), List.length_cons, Nat.succ_mul, Nat.add_comm]
theorem flat_split {ws : List (List Nat)} {i : Nat} {x : List Nat} (h : ws[i]? = some x) : ws.flatten = (ws.take i).flatten ++ x ++ (ws.drop (i + 1)).flatten := by
  have hi := (List.getElem?_eq_some_iff.mp h).1
  have e : ws = ws.take i ++ x :: ws.drop (i + 1) := by
    have t := List.take_append_drop i ws
    rw [List.drop_eq_getElem_cons hi, (List.getElem?_eq_some_iff.mp h).2] at t
    exact t.symm
  conv => lhs; rw [e]
  rw [List.flatten_append, List.flatten_cons, List.append_assoc]
theorem upto_step (w : Nat) (hw : 0 < w) : ∀ (m n : Nat) (a : Nat), m ≤ n → upto (.ofNat (a + m * w)) (.ofNat w) n (.ofNat a) = (List.range m).map fun i => .int (.ofNat (a + i * w))
  | 0, n, a, _ => by
    cases n with
    | zero => rfl
    | succ n =>
      show cnd (W.Z.ltB (.ofNat a) (.ofNat (a + 0 * w))) _ [] = _
      have : W.Z.ltB (.ofNat a) (.ofNat (a + 0 * w)) = false := by
        cases q : W.Z.ltB (.ofNat a) (.ofNat (a + 0 * w)) with
        | false => rfl
        | true =>
          have h : (a : Int) < ((a + 0 * w : Nat) : Int) := (W.Z.ltB_iff _ _).mp q
          rw [Nat.zero_mul] at h
          omega
      rw [this]; rfl
  | m + 1, 0, a, h => absurd h (Nat.not_succ_le_zero _)
  | m + 1, n + 1, a, h => by
    show cnd (W.Z.ltB (.ofNat a) (.ofNat (a + (m + 1) * w))) (.int (.ofNat a) :: frI (.ofNat a + .ofNat w) (upto (.ofNat (a + (m + 1) * w)) (.ofNat w) n)) [] = _
    have : W.Z.ltB (.ofNat a) (.ofNat (a + (m + 1) * w)) = true := by
      refine (W.Z.ltB_iff _ _).mpr ?_
      show (a : Int) < ((a + (m + 1) * w : Nat) : Int)
      rw [Nat.succ_mul]
      omega
    rw [this, cnd_t, frI_eq]
    have e : a + (m + 1) * w = (a + w) + m * w := by rw [Nat.succ_mul]; omega
    rw [e]
    have ih := upto_step w hw m n (a + w) (Nat.le_of_succ_le_succ h)
    have e2 : (Int.ofNat a + Int.ofNat w) = Int.ofNat (a + w) := rfl
    rw [e2, ih, List.range_succ_eq_map, List.map_cons, List.map_map, Nat.zero_mul]
    congr 1
    refine List.map_congr_left fun i _ => ?_
    show MV.int (.ofNat (a + w + i * w)) = MV.int (.ofNat (a + (i + 1) * w))
    rw [Nat.succ_mul, Nat.add_assoc, Nat.add_comm w]
theorem iR3 {k : Kx} {ρ : Lo} {σ σ₁ σ₂ : Hp} {y z : CE} {m w : Nat} (h : y k ρ σ = some (.int (.ofNat (m * w)), σ₁)) (h' : z k ρ σ₁ = some (.int (.ofNat w), σ₂)) (h0 : 0 < w) (hb : m * w < 1073741824) (hw : w < 1073741824) :
    iR [cVal (.int (.ofNat 0)), y, z] k ρ σ = some (.plain none ((List.range m).map fun i => .int (.ofNat (i * w))), σ₂) := by
  have e : evs [cVal (.int (.ofNat 0)), y, z] k ρ σ = some ([.int (.ofNat 0), .int (.ofNat (m * w)), .int (.ofNat w)], σ₂) := by
    show bnd (bnd (y k ρ σ) fun v σ => bnd (bnd (z k ρ σ) fun v σ => bnd (some (([] : List MV), σ)) fun vs σ => some (v :: vs, σ)) fun vs σ => some (v :: vs, σ)) (fun vs σ => some (MV.int (.ofNat 0) :: vs, σ)) = _
    rw [h, bnd_mk, h']
    rfl
  unfold iR
  rw [e, bnd_mk]
  show cnd (W.Z.ltB 0 (.ofNat w)) (cnd (small (.ofNat 0)) (cnd (small (.ofNat (m * w))) (cnd (small (.ofNat w)) (frVs (rangeL (.ofNat 0) (.ofNat (m * w)) (.ofNat w)) fun z => some (Its.plain none z, σ₂)) none) none) none) none = _
  rw [(W.Z.ltB_iff 0 (Int.ofNat w)).mpr (Int.natCast_pos.mpr h0), cnd_t, small_nat (by decide), cnd_t, small_nat hb, cnd_t, small_nat hw, cnd_t, frVs_eq]
  have : rangeL (.ofNat 0) (.ofNat (m * w)) (.ofNat w) = (List.range m).map fun i => .int (.ofNat (i * w)) := by
    unfold rangeL
    have hn : m ≤ ((Int.ofNat (m * w)) - (Int.ofNat 0)).toNat := by
      have : ((Int.ofNat (m * w)) - (Int.ofNat 0)).toNat = m * w := by
        show (((m * w : Nat) : Int) - 0).toNat = _
        omega
      rw [this]
      exact Nat.le_mul_of_pos_right m h0
    have := upto_step w h0 m _ 0 hn
    rw [Nat.zero_add] at this
    rw [this]
    refine List.map_congr_left fun i _ => ?_
    rw [Nat.zero_add]
  rw [this]
theorem sub_one_at {w j : Nat} (h : j < w) : w - j = (w - (j + 1)) + 1 := by omega
theorem setAt_mid {α : Type} : ∀ (X Y : List α) (a c : α), setAt (X ++ a :: Y) X.length c = X ++ c :: Y
  | [], _, _, _ => rfl
  | x :: X, Y, a, c => congrArg (x :: ·) (setAt_mid X Y a c)
theorem putB_eq {k : Kx} {σ : Hp} {p i c : Nat} {x : List Nat} (hp : σ[p]? = some (.barr x)) (hm : k.mut p = true) (hi : i < x.length) (hc : c < 256) (hx : x.length ≤ 1000000) : setItemV k σ (.ref p) (.int (.ofNat i)) (.int (.ofNat c)) = some (setAt σ p (.barr (setAt x i c))) := by
  unfold setItemV putAt
  show cnd (k.mut p) (match getO σ p with
    | some (.list x) => cnd (Nat.blt i (len x)) (setK x i (.int (.ofNat c)) fun x => setK σ p (.list x) some) none
    | some (.barr x) => cnd (Nat.ble (len x) 1000000) (cnd (Nat.blt c 256) (cnd (Nat.blt i (len x)) (setK x i c fun x => setK σ p (.barr x) some) none) none) none
    | _ => none) none = _
  rw [hm, cnd_t, getO_at hp]
  dsimp only
  have h1 : Nat.blt i (len x) = true := by rw [len_eq]; exact Nat.ble_eq_true_of_le hi
  have h2 : Nat.blt c 256 = true := Nat.ble_eq_true_of_le hc
  have h3 : Nat.ble (len x) 1000000 = true := by rw [len_eq]; exact Nat.ble_eq_true_of_le hx
  rw [h3, cnd_t, h2, cnd_t, h1, cnd_t, setK_eq, setK_eq]
theorem bytItem {σ : Hp} {i c : Nat} {x : List Nat} (hx : x.length ≤ 1000000) (h : x[i]? = some c) : getItemV σ (.bytes x) (.int (.ofNat i)) = some (.int (.ofNat c)) := by
  show chk x (bd1 (nth x i) fun c => frN c fun c => some (MV.int (.ofNat c))) = _
  rw [chk_eq _ hx, nth_eq, h, bd1_mk, frN_eq]
noncomputable section
def swapStep : CS := sSeq [
      sSb (cLoc 2) (cBin subV (cBin subV (cBin addV (cLoc 3) (cLoc 1)) (cVal (.int (.ofNat 1)))) (cLoc 4)) (cSub (cLoc 0) (cBin addV (cLoc 3) (cLoc 4)))]
end
abbrev rB (d : List Nat) (w p : Nat) (u v : Option MV) : Lo := [some (.bytes d), some (.int (.ofNat w)), some (.ref p), u, v, none, none, none, none]
theorem sub_at {x w j : Nat} (hj : j < w) : ((x + w : Nat) : Int) - 1 - (j : Int) = ((x + (w - (j + 1)) : Nat) : Int) := by omega
/-- one octet put -/
theorem swapStep_eq {σ : Hp} {d A R Z word : List Nat} {w i j c : Nat} (hd : d.length ≤ 1000000) (hA : A.length = i * w) (hj : j < w) (hc : d[i * w + j]? = some c) (hc2 : c < 256) (hl : (A ++ (List.replicate (w - j) 0 ++ R) ++ Z).length ≤ 1000000) :
    swapStep ⟨σ.length, []⟩ (rB d w σ.length (some (.int (.ofNat (i * w)))) (some (.int (.ofNat j)))) (σ ++ [.barr (A ++ (List.replicate (w - j) 0 ++ R) ++ Z)]) =
      some (.next, rB d w σ.length (some (.int (.ofNat (i * w)))) (some (.int (.ofNat j))), σ ++ [.barr (A ++ (List.replicate (w - (j + 1)) 0 ++ c :: R) ++ Z)]) := by
  have e : A ++ (List.replicate (w - j) 0 ++ R) ++ Z = (A ++ List.replicate (w - (j + 1)) 0) ++ 0 :: (R ++ Z) := by
    have : w - j = (w - (j + 1)) + 1 := sub_one_at hj
    rw [this, List.replicate_succ', List.append_assoc, List.append_assoc, List.append_assoc, List.append_assoc]
    rfl
  have hX : (A ++ List.replicate (w - (j + 1)) 0).length = i * w + (w - (j + 1)) := by rw [List.length_append, hA, List.length_replicate]
  have hp : (σ ++ [MO.barr (A ++ (List.replicate (w - j) 0 ++ R) ++ Z)])[σ.length]? = some (.barr (A ++ (List.replicate (w - j) 0 ++ R) ++ Z)) := by rw [List.getElem?_append_right (Nat.le_refl _), Nat.sub_self]; rfl
  have i1 : cBin subV (cBin subV (cBin addV (cLoc 3) (cLoc 1)) (cVal (.int (.ofNat 1)))) (cLoc 4) ⟨σ.length, []⟩ (rB d w σ.length (some (.int (.ofNat (i * w)))) (some (.int (.ofNat j)))) (σ ++ [.barr (A ++ (List.replicate (w - j) 0 ++ R) ++ Z)]) = some (.int (.ofNat (i * w + (w - (j + 1)))), σ ++ [.barr (A ++ (List.replicate (w - j) 0 ++ R) ++ Z)]) := by
    have a1 := (cBin_eq (f := addV) (cLoc_eq (k := ⟨σ.length, []⟩) (ρ := rB d w σ.length (some (.int (.ofNat (i * w)))) (some (.int (.ofNat j)))) (σ := σ ++ [.barr (A ++ (List.replicate (w - j) 0 ++ R) ++ Z)]) (i := 3) (v := .int (.ofNat (i * w))) rfl) (cLoc_eq (i := 1) (v := .int (.ofNat w)) rfl)).trans (addN ..)
    have a2 := (cBin_eq (f := subV) a1 (show cVal (.int (.ofNat 1)) _ _ _ = some (.int (.ofNat 1), _) from rfl)).trans (subI_eq ..)
    refine (cBin_eq (f := subV) a2 (cLoc_eq (i := 4) (v := .int (.ofNat j)) rfl)).trans ((subI_eq ..).trans ?_)
    congr 3
    exact sub_at hj
  have i2 := cSub_eq (cLoc_eq (k := ⟨σ.length, []⟩) (ρ := rB d w σ.length (some (.int (.ofNat (i * w)))) (some (.int (.ofNat j)))) (σ := σ ++ [.barr (A ++ (List.replicate (w - j) 0 ++ R) ++ Z)]) (i := 0) (v := .bytes d) rfl)
    ((cBin_eq (f := addV) (cLoc_eq (i := 3) (v := .int (.ofNat (i * w))) rfl) (cLoc_eq (i := 4) (v := .int (.ofNat j)) rfl)).trans (addN ..)) (bytItem hd hc)
  have s := sSb_eq (x := cLoc 2) i2 (cLoc_eq (v := .ref σ.length) rfl) i1 (putB_eq hp (Kx.mut_of (Nat.le_refl _) rfl) (by rw [e, List.length_append, hX, List.length_cons]; exact Nat.lt_add_of_pos_right (Nat.succ_pos _)) hc2 hl)
  have z := setAt_app σ [MO.barr (A ++ (List.replicate (w - j) 0 ++ R) ++ Z)] 0 (.barr (setAt (A ++ (List.replicate (w - j) 0 ++ R) ++ Z) (i * w + (w - (j + 1))) c))
  rw [Nat.add_zero] at z
  rw [z] at s
  unfold swapStep
  rw [sSeq_one s]
  show some (MF.next, _, σ ++ [MO.barr (setAt (A ++ (List.replicate (w - j) 0 ++ R) ++ Z) (i * w + (w - (j + 1))) c)]) = _
  rw [e, ← hX, setAt_mid]
  congr 5
  rw [List.append_assoc, List.append_assoc, List.append_assoc]
  rfl
theorem swap_eq {σ : Hp} {ws : List (List Nat)} {w : Nat} (h0 : 0 < w) (hw : ∀ x ∈ ws, x.length = w) (h256 : ∀ x ∈ ws, ∀ c ∈ x, c < 256) (hl : ws.length * w ≤ 1000000) (hw2 : w ≤ 1000) : F_byteswap σ [.bytes ws.flatten, .int (.ofNat w)] = some (.bytes (ws.map List.reverse).flatten, σ) := by
  have hd : ws.flatten.length = ws.length * w := flat_len hw
  have hd6 : ws.flatten.length ≤ 1000000 := by rw [hd]; exact hl
  have f0 : fDef 9 [0, 1] B_byteswap σ [.bytes ws.flatten, .int (.ofNat w)] = retF (B_byteswap ⟨σ.length, []⟩ [some (.bytes ws.flatten), some (.int (.ofNat w)), none, none, none, none, none, none, none] σ) := by
    unfold fDef
    rw [frN_eq, len_eq]
    rfl
  have el : ∀ {k : Kx} {ρ : Lo} {σ : Hp}, getV ρ 0 = some (.bytes ws.flatten) → cB1 lenV (cLoc 0) k ρ σ = some (.int (.ofNat (ws.length * w)), σ) := fun {k ρ σ} h => by
    rw [cB1_eq (cLoc_eq h)]
    show chk ws.flatten (retN σ (len ws.flatten)) = _
    rw [chk_eq _ hd6, retN_eq, len_eq, hd]
  have s1 : sNm 2 (cB1 barrV (cB1 lenV (cLoc 0))) ⟨σ.length, []⟩ [some (.bytes ws.flatten), some (.int (.ofNat w)), none, none, none, none, none, none, none] σ = some (.next, rB ws.flatten w σ.length none none, σ ++ [.barr (List.replicate (ws.length * w) 0)]) := by
    have : cB1 barrV (cB1 lenV (cLoc 0)) ⟨σ.length, []⟩ [some (.bytes ws.flatten), some (.int (.ofNat w)), none, none, none, none, none, none, none] σ = some (.ref σ.length, σ ++ [.barr (List.replicate (ws.length * w) 0)]) := by
      rw [cB1_eq (el rfl)]
      show cnd (Nat.ble (ws.length * w) 1000000) (frNs (rep (ws.length * w) [0]) fun z => new σ (.barr z)) none = _
      rw [Nat.ble_eq_true_of_le hl, cnd_t, frNs_eq, rep_rep, new_eq]
    exact sNm_eq this
  have hr := iR3 (k := ⟨σ.length, []⟩) (ρ := rB ws.flatten w σ.length none none) (σ := σ ++ [.barr (List.replicate (ws.length * w) 0)]) (el rfl) (cLoc_eq (i := 1) (v := .int (.ofNat w)) rfl) h0 (Nat.lt_of_le_of_lt hl (by decide)) (Nat.lt_of_le_of_lt hw2 (by decide))
  obtain ⟨ρ', σ', hf, hI⟩ := forP_inv (body := (sSeq [sFor (.one 4) (iR [(cLoc 1)]) swapStep]) ⟨σ.length, []⟩) (t := .one 3)
    (I := fun d ρ σ' => d ≤ ws.length ∧ σ' = σ ++ [MO.barr (((ws.take d).map List.reverse).flatten ++ List.replicate ((ws.length - d) * w) 0)] ∧ ∃ u v, ρ = rB ws.flatten w σ.length u v)
    ((List.range ws.length).map fun i => .int (.ofNat (i * w))) 0 (ρ := rB ws.flatten w σ.length none none) (σ := σ ++ [.barr (List.replicate (ws.length * w) 0)]) (by
      rintro d v ρ σ' hv ⟨hdl, rfl, u, v', rfl⟩
      obtain ⟨hi, rfl⟩ := range_get hv
      rw [Nat.zero_add] at hdl ⊢
      have hx : ws[d]? = some ws[d] := List.getElem?_eq_getElem hi
      have hxl : ws[d].length = w := hw _ (List.getElem_mem hi)
      have hA : ((ws.take d).map List.reverse).flatten.length = d * w := by
        rw [flat_len (w := w) (fun y hy => by obtain ⟨z, hz, rfl⟩ := List.mem_map.mp hy; rw [List.length_reverse]; exact hw z (List.mem_of_mem_take hz)), List.length_map, List.length_take, Nat.min_eq_left hdl]
      have hB : (ws.take d).flatten.length = d * w := by
        rw [flat_len (w := w) (fun y hy => hw y (List.mem_of_mem_take hy)), List.length_take, Nat.min_eq_left hdl]
      have hz : (ws.length - d) * w = w + (ws.length - (d + 1)) * w := by
        have : ws.length - d = (ws.length - (d + 1)) + 1 := sub_one_at hi
        rw [this, Nat.succ_mul, Nat.add_comm]
      have hsum : d * w + (w + (ws.length - (d + 1)) * w) ≤ 1000000 := by
        rw [← hz, ← Nat.add_mul]
        rw [Nat.add_sub_cancel' hdl]; exact hl
      have hr' := iR1 (k := ⟨σ.length, []⟩) (ρ := rB ws.flatten w σ.length (some (.int (.ofNat (d * w)))) v') (σ := σ ++ [.barr (((ws.take d).map List.reverse).flatten ++ List.replicate ((ws.length - d) * w) 0)]) (x := cLoc 1) (b := w) (cLoc_eq rfl) (Nat.lt_of_le_of_lt hw2 (by decide))
      obtain ⟨ρ₂, σ₂, hf₂, hI₂⟩ := forP_inv (body := swapStep ⟨σ.length, []⟩) (t := .one 4)
        (I := fun s ρ σ' => s ≤ w ∧ σ' = σ ++ [MO.barr (((ws.take d).map List.reverse).flatten ++ (List.replicate (w - s) 0 ++ (ws[d].take s).reverse) ++ List.replicate ((ws.length - (d + 1)) * w) 0)] ∧ ∃ v, ρ = rB ws.flatten w σ.length (some (.int (.ofNat (d * w)))) v)
        ((List.range w).map fun i => .int (.ofNat i)) 0 (ρ := rB ws.flatten w σ.length (some (.int (.ofNat (d * w)))) v') (σ := σ ++ [.barr (((ws.take d).map List.reverse).flatten ++ List.replicate ((ws.length - d) * w) 0)]) (by
          rintro s v ρ σ' hv ⟨hs, rfl, v', rfl⟩
          obtain ⟨hi', rfl⟩ := range_get hv
          rw [Nat.zero_add] at hs ⊢
          have hsl : s < ws[d].length := by rw [hxl]; exact hi'
          have hc : ws[d][s]? = some ws[d][s] := List.getElem?_eq_getElem hsl
          have hcd : ws.flatten[d * w + s]? = some ws[d][s] := by
            rw [flat_split hx, List.append_assoc, List.getElem?_append_right (by rw [hB]; exact Nat.le_add_right ..), hB, Nat.add_sub_cancel_left, List.getElem?_append_left hsl]
            exact hc
          have st := swapStep_eq (σ := σ) (A := ((ws.take d).map List.reverse).flatten) (R := (ws[d].take s).reverse) (Z := List.replicate ((ws.length - (d + 1)) * w) 0) (word := []) hd6 hA hi' hcd (h256 _ (List.getElem_mem hi) _ (List.getElem_mem _)) (by
            rw [List.length_append, List.length_append, List.length_append, List.length_replicate, List.length_replicate, List.length_reverse, List.length_take, hA, hxl, Nat.min_eq_left hs, Nat.sub_add_cancel hs, Nat.add_assoc]
            exact hsum)
          have e : ws[d][s] :: (ws[d].take s).reverse = (ws[d].take (s + 1)).reverse := by rw [List.take_add_one, hc, Option.toList_some, List.reverse_append]; rfl
          rw [e] at st
          exact ⟨_, _, _, bindT_one, st, hi', rfl, _, rfl⟩) ⟨Nat.zero_le _, by
            rw [hz, ← List.replicate_append_replicate]
            simp only [Nat.sub_zero, List.take_zero, List.reverse_nil, List.append_nil, List.append_assoc], v', rfl⟩
      obtain ⟨_, rfl, v₂, rfl⟩ := hI₂
      rw [Nat.zero_add, List.length_map, List.length_range, Nat.sub_self, show ws[d].take w = ws[d] from List.take_of_length_le (Nat.le_of_eq hxl)] at hf₂
      refine ⟨_, _, _, bindT_one, sSeq_one (sFor_plain hr' hf₂), hi, ?_, _, _, rfl⟩
      rw [List.take_add_one, hx]
      simp only [Option.toList_some, List.map_append, List.map_cons, List.map_nil, List.flatten_append, List.flatten_cons, List.flatten_nil, List.append_nil, List.replicate_zero, List.nil_append]) ⟨Nat.zero_le _, by simp, none, none, rfl⟩
  obtain ⟨_, rfl, u, v, rfl⟩ := hI
  rw [Nat.zero_add, List.length_map, List.length_range, List.take_of_length_le (Nat.le_refl _), Nat.sub_self, Nat.zero_mul, List.replicate_zero, List.append_nil] at hf
  have e5 : B_byteswap ⟨σ.length, []⟩ [some (.bytes ws.flatten), some (.int (.ofNat w)), none, none, none, none, none, none, none] σ = _ := (sSeq_cons s1).trans (sSeq_cons (sFor_plain hr hf))
  have hlr : (ws.map List.reverse).flatten.length ≤ 1000000 := by
    rw [flat_len (w := w) (fun y hy => by obtain ⟨z, hz, rfl⟩ := List.mem_map.mp hy; rw [List.length_reverse]; exact hw z hz), List.length_map]
    exact hl
  have e6 : cB1 bytesV (cLoc 2) ⟨σ.length, []⟩ (rB ws.flatten w σ.length u v) (σ ++ [.barr (ws.map List.reverse).flatten]) = some (.bytes (ws.map List.reverse).flatten, σ ++ [.barr (ws.map List.reverse).flatten]) := by
    rw [cB1_eq (cLoc_eq (v := .ref σ.length) rfl)]
    unfold bytesV
    dsimp only
    rw [show getO (σ ++ [MO.barr (ws.map List.reverse).flatten]) σ.length = some (.barr (ws.map List.reverse).flatten) from getO_new (i := 0) rfl]
    dsimp only
    rw [chk_eq _ hlr]
  unfold F_byteswap gcF
  rw [f0, e5, sRet_eq e6, bnd_mk]
  rfl
end Mine.L2
end

section
set_option maxRecDepth 100000
namespace Mine.L2
open PySem Mine Mine.Pre
/-! ## one round, on plain lists -/
/-- they stand the wrong way -/
def sw (up : Bool) (a b : Nat) : Bool := if up then Nat.blt b a else Nat.blt a b
def swapW (up : Bool) : List Nat → List Nat
  | [a, b, c, d, e] => (if sw up a b then [b, a] else [a, b]) ++ (if sw up c d then [d, c] else [c, d]) ++ [e]
  | x => x
def posW (up : Bool) (i : Nat) : List Nat → List Nat
  | [a, b, c, d, _] => (if sw up a b then [5 * i] else []) ++ (if sw up c d then [5 * i + 2] else [])
  | _ => []
def wrongN (up : Bool) (ws : List (List Nat)) : Nat → List Nat
  | 0 => []
  | i + 1 => wrongN up ws i ++ posW up i (ws.getD i [])
def condP (up : Bool) (p : List Nat) (at_ : Nat) : Bool := (at_ % 5 == 0 || at_ % 5 == 2) && sw up (p.getD at_ 0) (p.getD (at_ + 1) 0)
theorem five_of {x : List Nat} (h : x.length = 5) : ∃ a b c d e, x = [a, b, c, d, e] := by
  match x, h with
  | [a, b, c, d, e], _ => exact ⟨a, b, c, d, e, rfl⟩
theorem swapW_len {up : Bool} {x : List Nat} (h : x.length = 5) : (swapW up x).length = 5 := by
  obtain ⟨a, b, c, d, e, rfl⟩ := five_of h
  have es : swapW up [a, b, c, d, e] = (if sw up a b then [b, a] else [a, b]) ++ (if sw up c d then [d, c] else [c, d]) ++ [e] := rfl
  rw [es]
  cases sw up a b <;> cases sw up c d <;> rfl
theorem swapW_perm {up : Bool} {x : List Nat} (h : x.length = 5) : (swapW up x).Perm x := by
  obtain ⟨a, b, c, d, e, rfl⟩ := five_of h
  have es : swapW up [a, b, c, d, e] = (if sw up a b then [b, a] else [a, b]) ++ (if sw up c d then [d, c] else [c, d]) ++ [e] := rfl
  rw [es]
  have p : ∀ (q : Bool) (a b : Nat), (if q = true then [b, a] else [a, b]).Perm [a, b] := fun q a b => by
    cases q
    · exact .refl _
    · exact .swap ..
  exact ((p _ a b).append (p _ c d)).append (.refl [e])
theorem swapW_mem {up : Bool} {x : List Nat} (h : x.length = 5) (h256 : ∀ c ∈ x, c < 256) {c : Nat} (hc : c ∈ swapW up x) : c < 256 := h256 c ((swapW_perm h).mem_iff.mp hc)
theorem flat_at {ws : List (List Nat)} (hw : ∀ x ∈ ws, x.length = 5) {i : Nat} {x : List Nat} (h : ws[i]? = some x) (j : Nat) (hj : j < 5) : ws.flatten.getD (5 * i + j) 0 = x.getD j 0 := by
  have hi := (List.getElem?_eq_some_iff.mp h).1
  have hB : (ws.take i).flatten.length = 5 * i := by
    rw [flat_len (w := 5) (fun y hy => hw y (List.mem_of_mem_take hy)), List.length_take, Nat.min_eq_left (by omega), Nat.mul_comm]
  have hx : x.length = 5 := hw x (List.mem_of_getElem? h)
  rw [flat_split h, List.append_assoc, List.getD_eq_getElem?_getD, List.getD_eq_getElem?_getD, List.getElem?_append_right (by omega), hB, Nat.add_sub_cancel_left, List.getElem?_append_left (by omega)]
theorem wrong_eq {up : Bool} {ws : List (List Nat)} (hw : ∀ x ∈ ws, x.length = 5) : ∀ i, i ≤ ws.length → (List.range (5 * i)).filter (condP up ws.flatten) = wrongN up ws i
  | 0, _ => rfl
  | i + 1, h => by
    have hx : ws[i]? = some ws[i] := List.getElem?_eq_getElem h
    obtain ⟨a, b, c, d, e, he⟩ := five_of (hw _ (List.getElem_mem h))
    have g := flat_at hw hx
    rw [he] at g
    have g0 : ws.flatten.getD (5 * i) 0 = a := g 0 (by decide)
    have g1 : ws.flatten.getD (5 * i + 1) 0 = b := g 1 (by decide)
    have g2 : ws.flatten.getD (5 * i + 2) 0 = c := g 2 (by decide)
    have g3 : ws.flatten.getD (5 * i + 3) 0 = d := g 3 (by decide)
    have e5 : 5 * (i + 1) = 5 * i + 1 + 1 + 1 + 1 + 1 := by omega
    have c0 : condP up ws.flatten (5 * i) = sw up a b := by
      unfold condP
      rw [g0, g1, show 5 * i % 5 = 0 by omega]; rfl
    have c1 : condP up ws.flatten (5 * i + 1) = false := by
      unfold condP
      rw [show (5 * i + 1) % 5 = 1 by omega]; rfl
    have c2 : condP up ws.flatten (5 * i + 1 + 1) = sw up c d := by
      unfold condP
      rw [show (5 * i + 1 + 1) % 5 = 2 by omega, show 5 * i + 1 + 1 = 5 * i + 2 from rfl, show 5 * i + 2 + 1 = 5 * i + 3 from rfl, g2, g3]; rfl
    have c3 : condP up ws.flatten (5 * i + 1 + 1 + 1) = false := by
      unfold condP
      rw [show (5 * i + 1 + 1 + 1) % 5 = 3 by omega]; rfl
    have c4 : condP up ws.flatten (5 * i + 1 + 1 + 1 + 1) = false := by
      unfold condP
      rw [show (5 * i + 1 + 1 + 1 + 1) % 5 = 4 by omega]; rfl
    have hd : ws.getD i [] = [a, b, c, d, e] := by rw [List.getD_eq_getElem?_getD, hx, he]; rfl
    rw [e5, List.range_succ, List.range_succ, List.range_succ, List.range_succ, List.range_succ]
    simp only [List.filter_append, List.filter_cons, List.filter_nil, c0, c1, c2, c3, c4, if_false, Bool.false_eq_true, List.append_nil]
    rw [wrong_eq hw i (by omega), List.append_assoc]
    have ew : wrongN up ws (i + 1) = wrongN up ws i ++ posW up i (ws.getD i []) := rfl
    have ep : posW up i [a, b, c, d, e] = (if sw up a b then [5 * i] else []) ++ (if sw up c d then [5 * i + 2] else []) := rfl
    rw [ew, hd, ep]
/-- the pairs put: what the round's last loop does -/
def putP (p : List Nat) (l : List Nat) (at_ : Nat) : List Nat := setAt (setAt l at_ (p.getD (at_ + 1) 0)) (at_ + 1) (p.getD at_ 0)
theorem putP_length (p l : List Nat) (a : Nat) : (putP p l a).length = l.length := by unfold putP; rw [setAt_length, setAt_length]
theorem put_eqN {up : Bool} {ws : List (List Nat)} (hw : ∀ x ∈ ws, x.length = 5) : ∀ i, i ≤ ws.length → (wrongN up ws i).foldl (putP ws.flatten) ws.flatten = ((ws.take i).map (swapW up)).flatten ++ (ws.drop i).flatten
  | 0, _ => by simp [wrongN]
  | i + 1, h => by
    have hx : ws[i]? = some ws[i] := List.getElem?_eq_getElem h
    obtain ⟨a, b, c, d, e, he⟩ := five_of (hw _ (List.getElem_mem h))
    have g := flat_at hw hx
    rw [he] at g
    have g0 : ws.flatten.getD (5 * i) 0 = a := g 0 (by decide)
    have g1 : ws.flatten.getD (5 * i + 1) 0 = b := g 1 (by decide)
    have g2 : ws.flatten.getD (5 * i + 2) 0 = c := g 2 (by decide)
    have g3 : ws.flatten.getD (5 * i + 2 + 1) 0 = d := g 3 (by decide)
    have hd : ws.getD i [] = [a, b, c, d, e] := by rw [List.getD_eq_getElem?_getD, hx, he]; rfl
    have hsw : ∀ y ∈ (ws.take i).map (swapW up), y.length = 5 := fun y hy => by
      obtain ⟨z, hz, rfl⟩ := List.mem_map.mp hy
      obtain ⟨a, b, c, d, e, rfl⟩ := five_of (hw z (List.mem_of_mem_take hz))
      show ((if sw up a b then [b, a] else [a, b]) ++ (if sw up c d then [d, c] else [c, d]) ++ [e]).length = 5
      cases sw up a b <;> cases sw up c d <;> rfl
    have hX : ((ws.take i).map (swapW up)).flatten.length = 5 * i := by
      rw [flat_len hsw, List.length_map, List.length_take, Nat.min_eq_left (by omega), Nat.mul_comm]
    unfold wrongN
    rw [List.foldl_append, put_eqN hw i (by omega), hd, List.drop_eq_getElem_cons h, he, List.flatten_cons, List.take_add_one, hx, he]
    generalize hXe : ((ws.take i).map (swapW up)).flatten = X at hX ⊢
    generalize (ws.drop (i + 1)).flatten = Y
    have p0 : ∀ {u v : Nat} {T : List Nat}, putP ws.flatten (X ++ (u :: v :: T)) (5 * i) = X ++ (b :: a :: T) := fun {u v T} => by
      unfold putP
      rw [g0, g1, ← hX]
      have := setAt_app X (u :: v :: T) 0 b
      rw [Nat.add_zero] at this
      rw [this, setAt_app]
      rfl
    have p2 : ∀ {u v s t : Nat} {T : List Nat}, putP ws.flatten (X ++ (s :: t :: u :: v :: T)) (5 * i + 2) = X ++ (s :: t :: d :: c :: T) := fun {u v s t T} => by
      unfold putP
      rw [g2, g3, ← hX, setAt_app]
      have := setAt_app X (setAt (s :: t :: u :: v :: T) 2 d) 3 c
      rw [show X.length + 2 + 1 = X.length + 3 from rfl, this]
      rfl
    simp only [Option.toList_some, List.map_append, List.map_cons, List.map_nil, List.flatten_append, List.flatten_cons, List.flatten_nil, List.append_nil, hXe]
    have ep : posW up i [a, b, c, d, e] = (if sw up a b then [5 * i] else []) ++ (if sw up c d then [5 * i + 2] else []) := rfl
    have es : swapW up [a, b, c, d, e] = (if sw up a b then [b, a] else [a, b]) ++ (if sw up c d then [d, c] else [c, d]) ++ [e] := rfl
    rw [ep, es]
    cases sw up a b <;> cases sw up c d <;> simp [p0, p2]
end Mine.L2
end

section
set_option maxRecDepth 100000
namespace Mine.L2
open PySem Mine Mine.Pre
theorem modN (σ : Hp) (x y : Nat) (h : 0 < y) : modV σ (.int (.ofNat x)) (.int (.ofNat y)) = some (.int (.ofNat (x % y)), σ) := by
  rw [mod_pos (σ := σ) (Int.ofNat x) (Int.ofNat y) (Int.natCast_pos.mpr h)]
  have : Int.fmod (Int.ofNat x) (Int.ofNat y) = Int.ofNat (x % y) := Int.fmod_eq_emod_of_nonneg (x : Int) (Int.natCast_nonneg y)
  rw [this]
theorem cut_mid {α : Type} (a b : Nat) (x : List α) (h : a ≤ b) : cut (some (.ofNat a)) (some (.ofNat b)) x = (x.drop a).take (b - a) := by
  unfold cut
  rw [frN_eq, frN_eq, frN_eq, takeR_eq, dropR_eq, len_eq]
  show List.take (cnd (Nat.ble x.length b) x.length b - cnd (Nat.ble x.length a) x.length a) (x.drop (cnd (Nat.ble x.length a) x.length a)) = _
  have e : ∀ n, cnd (Nat.ble x.length n) x.length n = min n x.length := fun n => by
    rw [cnd_eq]
    split
    · rename_i q; rw [Nat.min_eq_right (Nat.le_of_ble_eq_true q)]
    · rename_i q; rw [Nat.min_eq_left (Nat.le_of_not_le fun z => q (Nat.ble_eq_true_of_le z))]
  rw [e, e]
  by_cases ha : x.length ≤ a
  · rw [Nat.min_eq_right ha, List.drop_of_length_le ha, List.drop_of_length_le (Nat.le_refl _)]
    simp
  · rw [show min a x.length = a from Nat.min_eq_left (by omega)]
    by_cases hb : b ≤ x.length
    · rw [show min b x.length = b from Nat.min_eq_left hb]
    · rw [show min b x.length = x.length from Nat.min_eq_right (by omega), List.take_of_length_le (by rw [List.length_drop]; omega), List.take_of_length_le (by rw [List.length_drop]; omega)]
theorem slcB {k : Kx} {ρ : Lo} {σ : Hp} {c d e : CE} {x : List Nat} {a b : Nat} (h : c k ρ σ = some (.bytes x, σ)) (h1 : d k ρ σ = some (.int (.ofNat a), σ)) (h2 : e k ρ σ = some (.int (.ofNat b), σ)) (hab : a ≤ b) (hl : x.length ≤ 1000000) :
    cSlc c (some d) (some e) k ρ σ = some (.bytes ((x.drop a).take (b - a)), σ) := by
  unfold cSlc
  rw [h, bnd_mk]
  show bnd (bnd (d k ρ σ) fun v σ => some (some v, σ)) (fun l σ => bnd (bnd (e k ρ σ) fun v σ => some (some v, σ)) fun u σ => sliceV σ (.bytes x) l u) = _
  rw [h1, bnd_mk, bnd_mk, h2, bnd_mk, bnd_mk]
  show chk x (frS (cut (some (.ofNat a)) (some (.ofNat b)) x) fun z => some (MV.bytes z, σ)) = _
  rw [chk_eq _ hl, frS_eq, cut_mid _ _ _ hab]
theorem bytesOf_map : ∀ l : List (List Nat), bytesOf (l.map .bytes) = some l
  | [] => rfl
  | a :: l => by
    show bd1 (bytesOf (l.map .bytes)) _ = _
    rw [bytesOf_map l]
    rfl
theorem join_eq {k : Kx} {σ : Hp} {j : Nat} {l : List (List Nat)} (h : σ[j]? = some (.list (l.map .bytes))) (hl : l.flatten.length ≤ 1000000) : joinV k σ (.bytes []) (.ref j) = some (.bytes l.flatten, σ) := by
  unfold joinV
  dsimp only
  rw [getO_at h]
  dsimp only
  rw [bytesOf_map, bd1_mk, frNs_eq, len_eq, Nat.ble_eq_true_of_le hl]
  rfl
theorem cMeth_eq {k : Kx} {ρ : Lo} {σ σ₁ σ₂ : Hp} {q : Hp → MV → Bool} {f : Kx → Hp → MV → MV → RE} {x y : CE} {u v : MV} (h : x k ρ σ = some (u, σ₁)) (hq : q σ₁ u = true) (h' : y k ρ σ₁ = some (v, σ₂)) : cMeth q f x y k ρ σ = f k σ₂ u v := by
  unfold cMeth
  rw [h, bnd_mk, hq, cnd_t, h', bnd_mk]
theorem cCall2 {k : Kx} {ρ : Lo} {σ σ₁ σ₂ : Hp} {F : FS} {x y : CE} {u v : MV} (h : x k ρ σ = some (u, σ₁)) (h' : y k ρ σ₁ = some (v, σ₂)) : cCall F [x, y] k ρ σ = F σ₂ [u, v] := by
  unfold cCall
  have e : evs [x, y] k ρ σ = some ([u, v], σ₂) := by
    show bnd (x k ρ σ) (fun v σ => bnd (bnd (y k ρ σ) fun v σ => bnd (some (([] : List MV), σ)) fun vs σ => some (v :: vs, σ)) fun vs σ => some (v :: vs, σ)) = _
    rw [h, bnd_mk, h']
    rfl
  rw [e, bnd_mk]
/-- the sense: one, or one below nought -/
def sgn (up : Bool) : Int := if up then 1 else -1
theorem ltI {σ : Hp} (a b : Nat) (up : Bool) : ltC σ (.int (((b : Int) - (a : Int)) * sgn up)) (.int (.ofNat 0)) = some (sw up a b) := by
  show some (W.Z.ltB _ _) = _
  congr 1
  rw [Bool.eq_iff_iff, W.Z.ltB_iff]
  unfold sgn sw
  cases up with
  | true =>
    show ((b : Int) - a) * 1 < 0 ↔ Nat.blt b a = true
    rw [W.Z.blt_iff]; omega
  | false =>
    show ((b : Int) - a) * (-1) < 0 ↔ Nat.blt a b = true
    rw [W.Z.blt_iff]; omega
noncomputable section
def markStep : CS := sSeq [
    sIf (tAnd [(tCmp inTC (cBin modV (cLoc 3) (cVal (.int (.ofNat 5)))) (cTup [(cVal (.int (.ofNat 0))), (cVal (.int (.ofNat 2)))])), (tCmp ltC (cBin mulV (cBin subV (cSub (cLoc 0) (cBin addV (cLoc 3) (cVal (.int (.ofNat 1))))) (cSub (cLoc 0) (cLoc 3))) (cLoc 1)) (cVal (.int (.ofNat 0))))]) (sSeq [
      sExp (cMeth isL appendV (cLoc 2) (cLoc 3))]) (sSeq [])]
end
abbrev rR (p : List Nat) (s : Int) (w : Nat) (a b c d e : Option MV) : Lo := [some (.bytes p), some (.int s), some (.ref w), a, b, c, d, none, none, none, none, none, e]
theorem anyI02 (n : Nat) : anyI (.ofNat n) [0, 2] = (n == 0 || n == 2) := by
  have h : ∀ m : Nat, W.Z.eqB (.ofNat m) (.ofNat n) = (n == m) := fun m => by
    rw [Bool.eq_iff_iff, W.Z.eqB_iff, beq_iff_eq]
    constructor
    · intro h; exact (Int.ofNat.inj h).symm
    · intro h; rw [h]
  show cnd (W.Z.eqB (.ofNat 0) (.ofNat n)) true (cnd (W.Z.eqB (.ofNat 2) (.ofNat n)) true false) = _
  rw [h, h]
  cases (n == 0) <;> cases (n == 2) <;> rfl
/-- a place looked at -/
theorem mark_eq {σ t : Hp} {p : List Nat} {up : Bool} {at_ : Nat} {vs : List MV} {b c d e : Option MV} (hp : p.length ≤ 1000) (h5 : p.length % 5 = 0) (ha : at_ < p.length) (h256 : ∀ c ∈ p, c < 256) (hv : vs.length < 1000000) :
    ∃ t', markStep ⟨σ.length, []⟩ (rR p (sgn up) σ.length (some (.int (.ofNat at_))) b c d e) (σ ++ .list vs :: t) = some (.next, rR p (sgn up) σ.length (some (.int (.ofNat at_))) b c d e, σ ++ .list (vs ++ if condP up p at_ then [.int (.ofNat at_)] else []) :: t') := by
  have e4 : (σ ++ MO.list vs :: t) ++ [MO.tuple [.int (.ofNat 0), .int (.ofNat 2)]] = σ ++ .list vs :: (t ++ [MO.tuple [.int (.ofNat 0), .int (.ofNat 2)]]) := by simp
  have t1 : tCmp inTC (cBin modV (cLoc 3) (cVal (.int (.ofNat 5)))) (cTup [(cVal (.int (.ofNat 0))), (cVal (.int (.ofNat 2)))]) ⟨σ.length, []⟩ (rR p (sgn up) σ.length (some (.int (.ofNat at_))) b c d e) (σ ++ .list vs :: t) =
      some (at_ % 5 == 0 || at_ % 5 == 2, σ ++ .list vs :: (t ++ [MO.tuple [.int (.ofNat 0), .int (.ofNat 2)]])) := by
    have a1 := (cBin_eq (f := modV) (cLoc_eq (k := ⟨σ.length, []⟩) (ρ := rR p (sgn up) σ.length (some (.int (.ofNat at_))) b c d e) (σ := σ ++ .list vs :: t) (i := 3) (v := .int (.ofNat at_)) rfl) (show cVal (.int (.ofNat 5)) _ _ _ = some (.int (.ofNat 5), _) from rfl)).trans (modN _ _ _ (by decide))
    have a2 := tup2_eq (k := ⟨σ.length, []⟩) (ρ := rR p (sgn up) σ.length (some (.int (.ofNat at_))) b c d e) (σ := σ ++ .list vs :: t) (x := cVal (.int (.ofNat 0))) (y := cVal (.int (.ofNat 2))) rfl rfl
    rw [e4] at a2
    refine tCmp_eq a1 a2 ?_
    unfold inTC
    dsimp only
    have : getO (σ ++ MO.list vs :: (t ++ [MO.tuple [.int (.ofNat 0), .int (.ofNat 2)]])) (σ ++ MO.list vs :: t).length = some (.tuple [.int (.ofNat 0), .int (.ofNat 2)]) := by
      rw [← e4]
      exact getO_new (σ := σ ++ MO.list vs :: t) (i := 0) rfl
    rw [this]
    show some (anyI (.ofNat (at_ % 5)) [0, 2]) = _
    rw [anyI02]
  unfold markStep
  have hand : ∀ {k ρ σ₀ σ₁} {x y : CT} {c : Bool}, x k ρ σ₀ = some (c, σ₁) → tAnd [x, y] k ρ σ₀ = cnd c (bnd (y k ρ σ₁) fun b σ => cnd b (some (true, σ)) (some (false, σ))) (some (false, σ₁)) := fun {k ρ σ₀ σ₁ x y c} h => by
    show bnd (x k ρ σ₀) (fun b σ => cnd b (bnd (y k ρ σ) fun b σ => cnd b (some (true, σ)) (some (false, σ))) (some (false, σ))) = _
    rw [h, bnd_mk]
  cases hc : (at_ % 5 == 0 || at_ % 5 == 2) with
  | false =>
    rw [hc] at t1
    refine ⟨t ++ [MO.tuple [.int (.ofNat 0), .int (.ofNat 2)]], sSeq_one ?_⟩
    rw [sIf_eq ((hand t1).trans (cnd_f _ _)), cnd_f]
    have : condP up p at_ = false := by unfold condP; rw [hc]; rfl
    rw [this]
    simp
    rfl
  | true =>
    rw [hc] at t1
    have ha1 : at_ + 1 < p.length := by
      have : at_ % 5 = 0 ∨ at_ % 5 = 2 := by simpa using hc
      omega
    have i0 : p[at_]? = some (p.getD at_ 0) := by rw [List.getD_eq_getElem?_getD, List.getElem?_eq_getElem ha]; rfl
    have i1 : p[at_ + 1]? = some (p.getD (at_ + 1) 0) := by rw [List.getD_eq_getElem?_getD, List.getElem?_eq_getElem ha1]; rfl
    have b0 := h256 _ (List.mem_of_getElem? i0)
    have b1 := h256 _ (List.mem_of_getElem? i1)
    have t2 : tCmp ltC (cBin mulV (cBin subV (cSub (cLoc 0) (cBin addV (cLoc 3) (cVal (.int (.ofNat 1))))) (cSub (cLoc 0) (cLoc 3))) (cLoc 1)) (cVal (.int (.ofNat 0))) ⟨σ.length, []⟩ (rR p (sgn up) σ.length (some (.int (.ofNat at_))) b c d e) (σ ++ .list vs :: (t ++ [MO.tuple [.int (.ofNat 0), .int (.ofNat 2)]])) =
        some (sw up (p.getD at_ 0) (p.getD (at_ + 1) 0), σ ++ .list vs :: (t ++ [MO.tuple [.int (.ofNat 0), .int (.ofNat 2)]])) := by
      have c1 := cSub_eq (cLoc_eq (k := ⟨σ.length, []⟩) (ρ := rR p (sgn up) σ.length (some (.int (.ofNat at_))) b c d e) (σ := σ ++ .list vs :: (t ++ [MO.tuple [.int (.ofNat 0), .int (.ofNat 2)]])) (i := 0) (v := .bytes p) rfl) (inc (i := 3) rfl) (bytItem (by omega) i1)
      have c2 := cSub_eq (cLoc_eq (k := ⟨σ.length, []⟩) (ρ := rR p (sgn up) σ.length (some (.int (.ofNat at_))) b c d e) (σ := σ ++ .list vs :: (t ++ [MO.tuple [.int (.ofNat 0), .int (.ofNat 2)]])) (i := 0) (v := .bytes p) rfl) (cLoc_eq (i := 3) (v := .int (.ofNat at_)) rfl) (bytItem (by omega) i0)
      have c3 := (cBin_eq (f := subV) c1 c2).trans (subI_eq ..)
      have c4 : mulV (σ ++ .list vs :: (t ++ [MO.tuple [.int (.ofNat 0), .int (.ofNat 2)]])) (.int (Int.ofNat (p.getD (at_ + 1) 0) - Int.ofNat (p.getD at_ 0))) (.int (sgn up)) = some (.int ((Int.ofNat (p.getD (at_ + 1) 0) - Int.ofNat (p.getD at_ 0)) * sgn up), σ ++ .list vs :: (t ++ [MO.tuple [.int (.ofNat 0), .int (.ofNat 2)]])) := by
        show cnd (small _) (retI _ _) none = _
        have : small (Int.ofNat (p.getD (at_ + 1) 0) - Int.ofNat (p.getD at_ 0)) = true := by
          unfold small
          refine Nat.ble_eq_true_of_le ?_
          show (((p.getD (at_ + 1) 0 : Nat) : Int) - ((p.getD at_ 0 : Nat) : Int)).natAbs + 1 ≤ 1073741824
          omega
        rw [this, cnd_t, retI_eq]
      exact tCmp_eq ((cBin_eq (f := mulV) c3 (cLoc_eq (i := 1) (v := .int (sgn up)) rfl)).trans c4) (show cVal (.int (.ofNat 0)) _ _ _ = some (.int (.ofNat 0), _) from rfl) (ltI _ _ _)
    have hcp : condP up p at_ = sw up (p.getD at_ 0) (p.getD (at_ + 1) 0) := by unfold condP; rw [hc]; rfl
    rw [hcp]
    refine ⟨t ++ [MO.tuple [.int (.ofNat 0), .int (.ofNat 2)]], sSeq_one ?_⟩
    have hb := (hand (y := tCmp ltC (cBin mulV (cBin subV (cSub (cLoc 0) (cBin addV (cLoc 3) (cVal (.int (.ofNat 1))))) (cSub (cLoc 0) (cLoc 3))) (cLoc 1)) (cVal (.int (.ofNat 0)))) t1).trans (cnd_t _ _)
    rw [t2, bnd_mk] at hb
    cases hs : sw up (p.getD at_ 0) (p.getD (at_ + 1) 0) with
    | false =>
      rw [hs] at hb
      rw [sIf_eq (hb.trans (cnd_f _ _)), cnd_f]
      simp
      rfl
    | true =>
      rw [hs] at hb
      rw [sIf_eq (hb.trans (cnd_t _ _)), cnd_t]
      refine sSeq_one ?_
      have hL : isL (σ ++ MO.list vs :: (t ++ [MO.tuple [.int (.ofNat 0), .int (.ofNat 2)]])) (.ref σ.length) = true := by
        unfold isL
        dsimp only
        rw [show getO (σ ++ MO.list vs :: (t ++ [MO.tuple [.int (.ofNat 0), .int (.ofNat 2)]])) σ.length = some (.list vs) from getO_new (σ := σ) (t := MO.list vs :: (t ++ [MO.tuple [.int (.ofNat 0), .int (.ofNat 2)]])) (i := 0) rfl]
      show bnd (cMeth isL appendV (cLoc 2) (cLoc 3) _ _ _) _ = _
      rw [(cMeth_eq (f := appendV) (cLoc_eq (v := .ref σ.length) rfl) hL (cLoc_eq (v := .int (.ofNat at_)) rfl)).trans (append_at (Kx.mut_of (Nat.le_refl _) rfl) hv)]
      rfl
end Mine.L2
end

section
set_option maxRecDepth 100000
namespace Mine.L2
open PySem Mine Mine.Pre
theorem flat_atW {w : Nat} {ws : List (List Nat)} (hw : ∀ x ∈ ws, x.length = w) {i : Nat} {x : List Nat} (h : ws[i]? = some x) {j c : Nat} (hc : x[j]? = some c) : ws.flatten[i * w + j]? = some c := by
  have hi := (List.getElem?_eq_some_iff.mp h).1
  have hj := (List.getElem?_eq_some_iff.mp hc).1
  have hB : (ws.take i).flatten.length = i * w := by
    rw [flat_len (w := w) (fun y hy => hw y (List.mem_of_mem_take hy)), List.length_take, Nat.min_eq_left (by omega)]
  rw [flat_split h, List.append_assoc, List.getElem?_append_right (by omega), hB, Nat.add_sub_cancel_left, List.getElem?_append_left hj, hc]
theorem wrong_lt {up : Bool} {p : List Nat} {n at_ : Nat} (hn : n % 5 = 0) (h : at_ ∈ (List.range n).filter (condP up p)) : at_ + 1 < n := by
  obtain ⟨h1, h2⟩ := List.mem_filter.mp h
  have h1 := List.mem_range.mp h1
  unfold condP at h2
  have h2 := (Bool.and_eq_true_iff.mp h2).1
  have : at_ % 5 = 0 ∨ at_ % 5 = 2 := by simpa using h2
  omega
theorem two_at {p : List Nat} {i : Nat} (h : i + 1 < p.length) : (p.drop i).take 2 = [p.getD i 0, p.getD (i + 1) 0] := by
  rw [List.drop_eq_getElem_cons (by omega), List.drop_eq_getElem_cons h]
  rw [List.getD_eq_getElem?_getD, List.getD_eq_getElem?_getD, List.getElem?_eq_getElem h, List.getElem?_eq_getElem (show i < p.length by omega)]
  rfl
theorem listB_eq {σ : Hp} {x : List Nat} (h : x.length ≤ 1000000) : listBV σ (.bytes x) = some (.ref σ.length, σ ++ [.list (nL x)]) := by
  show frVs (x.map fun c => .int (.ofNat c)) (fun z => chk z (new σ (.list z))) = _
  rw [frVs_eq, chk_eq _ (by rw [List.length_map]; exact h), new_eq]
  rfl
theorem bytesN_eq {σ : Hp} {j : Nat} {l : List Nat} (h : σ[j]? = some (.list (nL l))) (hl : ∀ a ∈ l, a < 256) : bytesV σ (.ref j) = some (.bytes l, σ) := bytesL_eq (getO_at h) hl
noncomputable section
def pairE : CE := cMeth isBy joinV (cVal (.bytes [])) (cComp (.one 1) (iE (cLoc 2)) (fun acc => (gIfs [] (gEmit acc (cSlc (cLoc 2) (some (cLoc 1)) (some (cBin addV (cLoc 1) (cVal (.int (.ofNat 2))))))))) [none, none, some 0])
def layStep : CS := sSeq [
    sSb (cLoc 5) (cLoc 3) (cSub (cLoc 4) (cBin mulV (cVal (.int (.ofNat 2))) (cLoc 6))),
    sSb (cLoc 5) (cBin addV (cLoc 3) (cVal (.int (.ofNat 1)))) (cSub (cLoc 4) (cBin addV (cBin mulV (cVal (.int (.ofNat 2))) (cLoc 6)) (cVal (.int (.ofNat 1)))))]
end
/-- the pairs, joined -/
theorem pair_eq {σ t : Hp} {p wr : List Nat} {s : Int} {a b c d e : Option MV} (hp : p.length ≤ 1000) (hw : ∀ x ∈ wr, x + 1 < p.length) (hl : wr.length ≤ 1000) :
    ∃ u, pairE ⟨σ.length, []⟩ (rR p s σ.length a b c d e) (σ ++ .list (nL wr) :: t) = some (.bytes (wr.map fun x => (p.drop x).take 2).flatten, σ ++ .list (nL wr) :: (t ++ u)) := by
  have h0 : (σ ++ MO.list (nL wr) :: t)[σ.length]? = some (.list (nL wr)) := by rw [List.getElem?_append_right (Nat.le_refl _), Nat.sub_self]; rfl
  have hlen : (σ ++ MO.list (nL wr) :: t).length = σ.length + (t.length + 1) := by rw [List.length_append]; rfl
  have h2 := cComp_eqP (k := ⟨σ.length, []⟩) (ρ := rR p s σ.length a b c d e) (σ := σ ++ .list (nL wr) :: t) (e := cSlc (cLoc 2) (some (cLoc 1)) (some (cBin addV (cLoc 1) (cVal (.int (.ofNat 2)))))) (u := fun x => .int (.ofNat x)) (g := fun x => .bytes ((p.drop x).take 2)) (i := 1) (cap := [none, none, some 0]) (xs := wr)
    (P := fun ρ => getV ρ 2 = some (.bytes p)) (iE_list (j := σ.length) (cLoc_eq (i := 2) rfl) (getO_at h0)) (Kx.mut_of (by rw [hlen]; exact Nat.le_add_right _ _) (memN_cons (by rw [hlen]; omega) rfl)) rfl
    (fun ρ v h => (getV_setAt_ne (by decide)).trans h)
    (fun x ρ σ' hP hx => by
      have := slcB (cLoc_eq (k := Kx.still ⟨σ.length, []⟩ (some σ.length)) (σ := σ') hP) (cLoc_eq hx) ((cBin_eq (f := addV) (cLoc_eq hx) (show cVal (.int (.ofNat 2)) _ _ _ = some (.int (.ofNat 2), _) from rfl)).trans (addN ..)) (Nat.le_add_right x 2) (by omega)
      rw [Nat.add_sub_cancel_left] at this
      exact this) (by decide) (by omega)
  have e4 : (σ ++ MO.list (nL wr) :: t) ++ [MO.list (wr.map fun x => MV.bytes ((p.drop x).take 2))] = σ ++ .list (nL wr) :: (t ++ [MO.list (wr.map fun x => MV.bytes ((p.drop x).take 2))]) := by simp
  have hj : (σ ++ MO.list (nL wr) :: (t ++ [MO.list (wr.map fun x => MV.bytes ((p.drop x).take 2))]))[(σ ++ MO.list (nL wr) :: t).length]? = some (.list ((wr.map fun x => (p.drop x).take 2).map .bytes)) := by
    rw [← e4, List.getElem?_append_right (Nat.le_refl _), Nat.sub_self, List.map_map]; rfl
  have hfl : (wr.map fun x => (p.drop x).take 2).flatten.length ≤ 1000000 := by
    rw [flat_len (w := 2) (fun y hy => by obtain ⟨z, hz, rfl⟩ := List.mem_map.mp hy; rw [two_at (hw z hz)]; rfl), List.length_map]
    omega
  rw [e4] at h2
  refine ⟨[MO.list (wr.map fun x => MV.bytes ((p.drop x).take 2))], ?_⟩
  unfold pairE
  rw [cMeth_eq (f := joinV) (q := isBy) (show cVal (.bytes []) _ _ _ = some (.bytes [], _) from rfl) rfl h2, join_eq hj hfl]
/-- one pair laid -/
theorem lay_eq {σ₀ σ : Hp} {p l wr : List Nat} {s : Int} {q i at_ : Nat} {a e : Option MV} (hi : wr[i]? = some at_) (hw : ∀ x ∈ wr, x + 1 < p.length) (hl : l.length = p.length) (hwl : wr.length ≤ 1000) (hq : q < σ.length) (hn : q ≤ σ.length) :
    layStep ⟨q, [q]⟩ (rR p s q (some (.int (.ofNat at_))) (some (.bytes (wr.map fun x => [p.getD (x + 1) 0, p.getD x 0]).flatten)) (some (.ref σ.length)) (some (.int (.ofNat i))) e) (σ ++ [.list (nL l)]) =
      some (.next, rR p s q (some (.int (.ofNat at_))) (some (.bytes (wr.map fun x => [p.getD (x + 1) 0, p.getD x 0]).flatten)) (some (.ref σ.length)) (some (.int (.ofNat i))) e, σ ++ [.list (nL (putP p l at_))]) := by
  have h2 : ∀ x ∈ wr.map (fun x => [p.getD (x + 1) 0, p.getD x 0]), x.length = 2 := fun x hx => by obtain ⟨z, _, rfl⟩ := List.mem_map.mp hx; rfl
  have hmi : (wr.map fun x => [p.getD (x + 1) 0, p.getD x 0])[i]? = some [p.getD (at_ + 1) 0, p.getD at_ 0] := by rw [List.getElem?_map, hi]; rfl
  have ha := hw at_ (List.mem_of_getElem? hi)
  have hii := (List.getElem?_eq_some_iff.mp hi).1
  have hfl : (wr.map fun x => [p.getD (x + 1) 0, p.getD x 0]).flatten.length ≤ 1000000 := by rw [flat_len h2, List.length_map]; omega
  have hm : Kx.mut ⟨q, [q]⟩ σ.length = true := Kx.mut_of hn (memN_cons (by omega) rfl)
  generalize hρ : rR p s q (some (.int (.ofNat at_))) (some (.bytes (wr.map fun x => [p.getD (x + 1) 0, p.getD x 0]).flatten)) (some (.ref σ.length)) (some (.int (.ofNat i))) e = ρ
  have r3 : getV ρ 3 = some (.int (.ofNat at_)) := by rw [← hρ]; rfl
  have r4 : getV ρ 4 = some (.bytes (wr.map fun x => [p.getD (x + 1) 0, p.getD x 0]).flatten) := by rw [← hρ]; rfl
  have r5 : getV ρ 5 = some (.ref σ.length) := by rw [← hρ]; rfl
  have r6 : getV ρ 6 = some (.int (.ofNat i)) := by rw [← hρ]; rfl
  have m2 : ∀ σ' : Hp, cBin mulV (cVal (.int (.ofNat 2))) (cLoc 6) ⟨q, [q]⟩ ρ σ' = some (.int (.ofNat (i * 2)), σ') := fun σ' => by
    rw [cBin_eq (f := mulV) (show cVal (.int (.ofNat 2)) _ _ _ = some (.int (.ofNat 2), σ') from rfl) (cLoc_eq r6), mulN _ _ _ (by decide), Nat.mul_comm]
  have w : ∀ {l : List Nat} {j v : Nat}, j < l.length → setItemV ⟨q, [q]⟩ (σ ++ [.list (nL l)]) (.ref σ.length) (.int (.ofNat j)) (.int (.ofNat v)) = some (σ ++ [.list (nL (setAt l j v))]) := fun {l j v} hj => by
    rw [put_eq (x := nL l) (by rw [List.getElem?_append_right (Nat.le_refl _), Nat.sub_self]; rfl) hm (by unfold nL; rw [List.length_map]; exact hj), nL_set]
    have := setAt_app σ [MO.list (nL l)] 0 (.list (nL (setAt l j v)))
    rw [Nat.add_zero] at this
    rw [this]; rfl
  have s1 := sSb_eq (x := cLoc 5) (i := cLoc 3) (cSub_eq (cLoc_eq (σ := σ ++ [.list (nL l)]) r4) (m2 _) (bytItem hfl (flat_atW h2 hmi (j := 0) rfl))) (cLoc_eq r5) (cLoc_eq r3) (w (l := l) (j := at_) (by omega))
  have s2 := sSb_eq (x := cLoc 5) (i := cBin addV (cLoc 3) (cVal (.int (.ofNat 1)))) (cSub_eq (cLoc_eq (σ := σ ++ [.list (nL (setAt l at_ (p.getD (at_ + 1) 0)))]) r4) ((cBin_eq (f := addV) (m2 _) (show cVal (.int (.ofNat 1)) _ _ _ = some (.int (.ofNat 1), _) from rfl)).trans (addN ..)) (bytItem hfl (flat_atW h2 hmi (j := 1) rfl))) (cLoc_eq r5) (inc r3) (w (l := setAt l at_ (p.getD (at_ + 1) 0)) (j := at_ + 1) (by rw [setAt_length]; omega))
  unfold layStep
  exact (sSeq_cons s1).trans (sSeq_one s2)
theorem round_eq {σ : Hp} {ws : List (List Nat)} {up : Bool} (hw : ∀ x ∈ ws, x.length = 5) (h256 : ∀ x ∈ ws, ∀ c ∈ x, c < 256) (hm : ws.length ≤ 100) :
    ∃ t j, F_law_round σ [.bytes ws.flatten, .int (sgn up)] = some (.ref j, σ ++ t) ∧ (σ ++ t)[j]? = some (.tuple [.ref σ.length, .bytes (ws.map fun x => (swapW up x).reverse).flatten]) ∧ (σ ++ t)[σ.length]? = some (.list (nL (wrongN up ws ws.length))) := by
  have hd : ws.flatten.length = 5 * ws.length := by rw [flat_len hw, Nat.mul_comm]
  have hp : ws.flatten.length ≤ 1000 := by rw [hd]; exact Nat.le_trans (Nat.mul_le_mul_left 5 hm) (by decide)
  have hp256 : ∀ c ∈ ws.flatten, c < 256 := fun c hc => by obtain ⟨x, hx, hcx⟩ := List.mem_flatten.mp hc; exact h256 x hx c hcx
  have hwr := wrong_eq (up := up) hw ws.length (Nat.le_refl _)
  have hwlt : ∀ x ∈ wrongN up ws ws.length, x + 1 < ws.flatten.length := fun x hx => by
    rw [hd]
    rw [← hwr] at hx
    exact wrong_lt (Nat.mul_mod_right 5 _) hx
  have hwl : (wrongN up ws ws.length).length ≤ 1000 := by
    rw [← hwr]
    refine Nat.le_trans (List.length_filter_le ..) ?_
    rw [List.length_range, ← hd]; exact hp
  have f0 : F_law_round σ [.bytes ws.flatten, .int (sgn up)] = retF (B_law_round ⟨σ.length, []⟩ [some (.bytes ws.flatten), some (.int (sgn up)), none, none, none, none, none, none, none, none, none, none, none] σ) := by
    unfold F_law_round fDef
    rw [frN_eq, len_eq]
    rfl
  have s1 : sNm 2 (cLst []) ⟨σ.length, []⟩ [some (.bytes ws.flatten), some (.int (sgn up)), none, none, none, none, none, none, none, none, none, none, none] σ = some (.next, rR ws.flatten (sgn up) σ.length none none none none none, σ ++ [.list []]) :=
    sNm_eq (show new σ (.list []) = _ from new_eq ..)
  have hr := iR1 (k := ⟨σ.length, []⟩) (ρ := rR ws.flatten (sgn up) σ.length none none none none none) (σ := σ ++ [.list []]) (x := cB1 lenV (cLoc 0)) (b := ws.flatten.length) (by
    rw [cB1_eq (cLoc_eq (v := .bytes ws.flatten) rfl)]
    show chk ws.flatten (retN _ (len ws.flatten)) = _
    rw [chk_eq _ (Nat.le_trans hp (by decide)), retN_eq, len_eq]) (Nat.lt_of_le_of_lt hp (by decide))
  obtain ⟨ρ', σ', hf, t, a, hσ, hρ, _⟩ := forP_inv (body := markStep ⟨σ.length, []⟩) (t := .one 3)
    (I := fun d ρ σ' => ∃ t a, σ' = σ ++ .list (nL ((List.range d).filter (condP up ws.flatten))) :: t ∧ ρ = rR ws.flatten (sgn up) σ.length a none none none none ∧ d ≤ ws.flatten.length)
    ((List.range ws.flatten.length).map fun i => .int (.ofNat i)) 0 (ρ := rR ws.flatten (sgn up) σ.length none none none none none) (σ := σ ++ [.list []]) (by
      rintro d v ρ σ' hv ⟨t, a, rfl, rfl, hdl⟩
      obtain ⟨hi, rfl⟩ := range_get hv
      rw [Nat.zero_add] at hdl ⊢
      have hvl : (nL ((List.range d).filter (condP up ws.flatten))).length < 1000000 := by
        unfold nL
        rw [List.length_map]
        refine Nat.lt_of_le_of_lt (List.length_filter_le ..) ?_
        rw [List.length_range]; exact Nat.lt_of_le_of_lt hdl (Nat.lt_of_le_of_lt hp (by decide))
      obtain ⟨t', e⟩ := mark_eq (σ := σ) (t := t) (up := up) (at_ := d) (vs := nL ((List.range d).filter (condP up ws.flatten))) (b := none) (c := none) (d := none) (e := none) hp (by rw [hd]; exact Nat.mul_mod_right 5 _) hi hp256 hvl
      refine ⟨_, _, _, bindT_one, e, t', _, ?_, rfl, hi⟩
      congr 3
      rw [List.range_succ, List.filter_append]
      unfold nL
      rw [List.map_append]
      cases q : condP up ws.flatten d <;> simp [q]) ⟨[], none, rfl, rfl, Nat.zero_le _⟩
  rw [Nat.zero_add, List.length_map, List.length_range, hd, hwr] at hσ
  subst hσ hρ
  obtain ⟨u, e3⟩ := pair_eq (σ := σ) (t := t) (p := ws.flatten) (wr := wrongN up ws ws.length) (s := sgn up) (a := a) (b := none) (c := none) (d := none) (e := none) hp hwlt hwl
  have htw : (wrongN up ws ws.length).map (fun x => (ws.flatten.drop x).take 2) = (wrongN up ws ws.length).map fun x => [ws.flatten.getD x 0, ws.flatten.getD (x + 1) 0] := List.map_congr_left fun x hx => two_at (hwlt x hx)
  have hgd : ∀ i, ws.flatten.getD i 0 < 256 := fun i => by
    rw [List.getD_eq_getElem?_getD]
    cases q : ws.flatten[i]? with
    | none => decide
    | some c => exact hp256 c (List.mem_of_getElem? q)
  rw [htw] at e3
  have sw2 := swap_eq (σ := σ ++ .list (nL (wrongN up ws ws.length)) :: (t ++ u)) (ws := (wrongN up ws ws.length).map fun x => [ws.flatten.getD x 0, ws.flatten.getD (x + 1) 0]) (w := 2) (by decide)
    (fun x hx => by obtain ⟨z, _, rfl⟩ := List.mem_map.mp hx; rfl) (fun x hx c hc => by
      obtain ⟨z, _, rfl⟩ := List.mem_map.mp hx
      rcases List.mem_cons.mp hc with rfl | hc
      · exact hgd _
      · rw [List.mem_singleton.mp hc]; exact hgd _) (by rw [List.length_map]; exact Nat.le_trans (Nat.mul_le_mul_right 2 hwl) (by decide)) (by decide)
  rw [List.map_map] at sw2
  have e4 := sNm_eq (i := 4) ((cCall2 (F := F_byteswap) e3 (show cVal (.int (.ofNat 2)) _ _ _ = some (.int (.ofNat 2), _) from rfl)).trans sw2)
  have e5 := sNm_eq (i := 5) ((cB1_eq (f := listBV) (cLoc_eq (k := ⟨σ.length, []⟩) (ρ := rR ws.flatten (sgn up) σ.length a (some (.bytes ((wrongN up ws ws.length).map fun x => [ws.flatten.getD (x + 1) 0, ws.flatten.getD x 0]).flatten)) none none none) (σ := σ ++ .list (nL (wrongN up ws ws.length)) :: (t ++ u)) (i := 0) (v := .bytes ws.flatten) rfl)).trans (listB_eq (Nat.le_trans hp (by decide))))
  generalize hτ : σ ++ MO.list (nL (wrongN up ws ws.length)) :: (t ++ u) = τ at e3 e4 e5 sw2
  have hτl : σ.length < τ.length := by rw [← hτ, List.length_append, List.length_cons]; exact Nat.lt_add_of_pos_right (Nat.succ_pos _)
  have hτ0 : τ[σ.length]? = some (.list (nL (wrongN up ws ws.length))) := by rw [← hτ, List.getElem?_append_right (Nat.le_refl _), Nat.sub_self]; rfl
  have hit : iN (cLoc 2) ⟨σ.length, []⟩ (rR ws.flatten (sgn up) σ.length a (some (.bytes ((wrongN up ws ws.length).map fun x => [ws.flatten.getD (x + 1) 0, ws.flatten.getD x 0]).flatten)) (some (.ref τ.length)) none none) (τ ++ [.list (nL ws.flatten)]) = some (.enum (some σ.length) (nL (wrongN up ws ws.length)), τ ++ [.list (nL ws.flatten)]) := by
    unfold iN
    rw [cLoc_eq (v := .ref σ.length) rfl, bnd_mk]
    unfold listV?
    dsimp only
    rw [getO_at (get_app hτ0)]
    rfl
  obtain ⟨ρ₂, σ₂, hf₂, a₂, b₂, hσ₂, hρ₂, _⟩ := forE_inv (body := layStep ⟨σ.length, [σ.length]⟩) (a := 6) (b := 3)
    (I := fun d ρ σ' => ∃ a b, σ' = τ ++ [MO.list (nL (((wrongN up ws ws.length).take d).foldl (putP ws.flatten) ws.flatten))] ∧ ρ = rR ws.flatten (sgn up) σ.length a (some (.bytes ((wrongN up ws ws.length).map fun x => [ws.flatten.getD (x + 1) 0, ws.flatten.getD x 0]).flatten)) (some (.ref τ.length)) b none ∧ d ≤ (wrongN up ws ws.length).length)
    (nL (wrongN up ws ws.length)) 0 (ρ := rR ws.flatten (sgn up) σ.length a (some (.bytes ((wrongN up ws ws.length).map fun x => [ws.flatten.getD (x + 1) 0, ws.flatten.getD x 0]).flatten)) (some (.ref τ.length)) none none) (σ := τ ++ [.list (nL ws.flatten)]) (by
      rintro d v ρ σ' hv ⟨a, b, rfl, rfl, hdl⟩
      unfold nL at hv
      rw [List.getElem?_map, Option.map_eq_some_iff] at hv
      obtain ⟨x, hx, rfl⟩ := hv
      rw [Nat.zero_add] at hdl ⊢
      have hi := (List.getElem?_eq_some_iff.mp hx).1
      have hll : (((wrongN up ws ws.length).take d).foldl (putP ws.flatten) ws.flatten).length = ws.flatten.length := by
        have : ∀ (xs l : List Nat), (xs.foldl (putP ws.flatten) l).length = l.length := fun xs => by
          induction xs with
          | nil => intro l; rfl
          | cons y ys ih => intro l; rw [List.foldl_cons, ih, putP_length]
        exact this _ _
      have e := lay_eq (σ₀ := σ) (σ := τ) (s := sgn up) (q := σ.length) (i := d) (at_ := x) (a := none) (e := none) hx hwlt hll hwl hτl (Nat.le_of_lt hτl)
      refine ⟨_, _, e, _, _, ?_, rfl, hi⟩
      rw [List.take_add_one, hx, List.foldl_append]
      rfl) ⟨a, none, rfl, rfl, Nat.zero_le _⟩
  have hnl : (nL (wrongN up ws ws.length)).length = (wrongN up ws ws.length).length := List.length_map ..
  rw [Nat.zero_add, hnl, List.take_of_length_le (Nat.le_refl _), put_eqN hw _ (Nat.le_refl _), List.take_of_length_le (Nat.le_refl _), List.drop_of_length_le (Nat.le_refl _), List.flatten_nil, List.append_nil] at hσ₂
  subst hσ₂ hρ₂
  have s6 : sFor (.many [6, 3]) (iN (cLoc 2)) layStep ⟨σ.length, []⟩ (rR ws.flatten (sgn up) σ.length a (some (.bytes ((wrongN up ws ws.length).map fun x => [ws.flatten.getD (x + 1) 0, ws.flatten.getD x 0]).flatten)) (some (.ref τ.length)) none none) (τ ++ [.list (nL ws.flatten)]) = some (.next, rR ws.flatten (sgn up) σ.length a₂ (some (.bytes ((wrongN up ws ws.length).map fun x => [ws.flatten.getD (x + 1) 0, ws.flatten.getD x 0]).flatten)) (some (.ref τ.length)) b₂ none, τ ++ [.list (nL ((ws.map (swapW up)).flatten))]) := by
    unfold sFor
    rw [hit, bnd_mk]
    exact hf₂
  have hsw5 : ∀ y ∈ ws.map (swapW up), y.length = 5 ∧ ∀ c ∈ y, c < 256 := fun y hy => by
    obtain ⟨z, hz, rfl⟩ := List.mem_map.mp hy
    exact ⟨swapW_len (hw z hz), fun _ hc => swapW_mem (hw z hz) (h256 z hz) hc⟩
  have hf256 : ∀ c ∈ (ws.map (swapW up)).flatten, c < 256 := fun c hc => by obtain ⟨x, hx, hcx⟩ := List.mem_flatten.mp hc; exact (hsw5 x hx).2 c hcx
  have sw5 := swap_eq (σ := τ ++ [.list (nL ((ws.map (swapW up)).flatten))]) (ws := ws.map (swapW up)) (w := 5) (by decide) (fun x hx => (hsw5 x hx).1) (fun x hx => (hsw5 x hx).2) (by rw [List.length_map]; exact Nat.le_trans (Nat.mul_le_mul_right 5 hm) (by decide)) (by decide)
  rw [List.map_map] at sw5
  have r7 := tup2_eq (k := ⟨σ.length, []⟩) (ρ := rR ws.flatten (sgn up) σ.length a₂ (some (.bytes ((wrongN up ws ws.length).map fun x => [ws.flatten.getD (x + 1) 0, ws.flatten.getD x 0]).flatten)) (some (.ref τ.length)) b₂ none) (cLoc_eq (σ := τ ++ [.list (nL ((ws.map (swapW up)).flatten))]) (i := 2) (v := .ref σ.length) rfl)
    ((cCall2 (F := F_byteswap) ((cB1_eq (f := bytesV) (cLoc_eq (i := 5) (v := .ref τ.length) rfl)).trans (bytesN_eq (by rw [List.getElem?_append_right (Nat.le_refl _), Nat.sub_self]; rfl) hf256)) (show cVal (.int (.ofNat 5)) _ _ _ = some (.int (.ofNat 5), _) from rfl)).trans sw5)
  have e9 : B_law_round ⟨σ.length, []⟩ [some (.bytes ws.flatten), some (.int (sgn up)), none, none, none, none, none, none, none, none, none, none, none] σ = _ :=
    (sSeq_cons s1).trans ((sSeq_cons (sFor_plain hr hf)).trans ((sSeq_cons e4).trans ((sSeq_cons e5).trans (sSeq_cons s6))))
  have hτσ : τ = σ ++ MO.list (nL (wrongN up ws ws.length)) :: (t ++ u) := hτ.symm
  refine ⟨MO.list (nL (wrongN up ws ws.length)) :: (t ++ u) ++ [.list (nL ((ws.map (swapW up)).flatten))] ++ [.tuple [.ref σ.length, .bytes (ws.map fun x => (swapW up x).reverse).flatten]], (τ ++ [MO.list (nL ((ws.map (swapW up)).flatten))]).length, ?_, ?_, ?_⟩
  · rw [f0, e9, sRet_eq r7, hτσ]
    simp [Function.comp_def]
  · have : σ ++ (MO.list (nL (wrongN up ws ws.length)) :: (t ++ u) ++ [.list (nL ((ws.map (swapW up)).flatten))] ++ [.tuple [.ref σ.length, .bytes (ws.map fun x => (swapW up x).reverse).flatten]]) = (τ ++ [MO.list (nL ((ws.map (swapW up)).flatten))]) ++ [.tuple [.ref σ.length, .bytes (ws.map fun x => (swapW up x).reverse).flatten]] := by rw [hτσ]; simp
    rw [this, List.getElem?_append_right (Nat.le_refl _), Nat.sub_self]; rfl
  · rw [List.getElem?_append_right (Nat.le_refl _), Nat.sub_self]; rfl
end Mine.L2
end

section
set_option maxRecDepth 100000
namespace Mine.L2
open PySem Mine Mine.Pre
/-- what is kept when a list under way at n grows and new objects come -/
def Keep (n : Nat) (σ σ' : Hp) : Prop := ∀ (j : Nat) (o : MO), j ≠ n → σ[j]? = some o → σ'[j]? = some o
theorem Keep.app {n : Nat} {σ t : Hp} : Keep n σ (σ ++ t) := fun _ _ _ h => get_app h
theorem Keep.trans {n : Nat} {a b c : Hp} (h : Keep n a b) (h' : Keep n b c) : Keep n a c := fun j o hj e => h' j o hj (h j o hj e)
theorem keep_list {σ t : Hp} {l l' : List MV} : Keep σ.length (σ ++ .list l :: t) (σ ++ .list l' :: t) := fun j o hj h => by
  by_cases q : j < σ.length
  · rw [List.getElem?_append_left q] at h ⊢; exact h
  · rw [List.getElem?_append_right (Nat.le_of_not_lt q)] at h ⊢
    cases z : j - σ.length with
    | zero => exact absurd (by omega : j = σ.length) hj
    | succ n => rw [z] at h; exact h
/-- values and what they stand for, one by one -/
inductive All2 {α : Type} (G : α → MV → Prop) : List α → List MV → Prop
  | nil : All2 G [] []
  | cons {x xs v vs} : G x v → All2 G xs vs → All2 G (x :: xs) (v :: vs)
theorem All2.mono {α : Type} {G G' : α → MV → Prop} (h : ∀ x v, G x v → G' x v) {xs : List α} {vs : List MV} (w : All2 G xs vs) : All2 G' xs vs := by
  induction w with
  | nil => exact .nil
  | cons a _ ih => exact .cons (h _ _ a) ih
theorem All2.snoc {α : Type} {G : α → MV → Prop} {x : α} {v : MV} (h : G x v) {xs : List α} {vs : List MV} (w : All2 G xs vs) : All2 G (xs ++ [x]) (vs ++ [v]) := by
  induction w with
  | nil => exact .cons h .nil
  | cons a _ ih => exact .cons a ih
theorem All2.map {α β : Type} {G : α → MV → Prop} {G' : β → MV → Prop} {f : α → β} (h : ∀ x v, G x v → G' (f x) v) {xs : List α} {vs : List MV} (w : All2 G xs vs) : All2 G' (xs.map f) vs := by
  induction w with
  | nil => exact .nil
  | cons a _ ih => exact .cons (h _ _ a) ih
theorem All2.length {α : Type} {G : α → MV → Prop} {xs : List α} {vs : List MV} (w : All2 G xs vs) : xs.length = vs.length := by
  induction w with
  | nil => rfl
  | cons _ _ ih => exact congrArg (· + 1) ih
/-- a comprehension whose elements may make objects; G: what an element's value is -/
theorem comp_gen {k : Kx} {e : CE} {i : Nat} {α : Type} {u : α → MV} {it : CI} {cap : List (Option Nat)} {ρ : Lo} {σ σ₁ : Hp} {f : Option Nat} {xs : List α} {P : Lo → Prop} {G : Hp → α → MV → Prop}
    (hit : it k ρ σ = some (.plain f (xs.map u), σ₁)) (hm : (k.still f).mut σ₁.length = true) (h0 : P (capture ρ cap)) (hP : ∀ ρ v, P ρ → P (setAt ρ i v)) (hi : i < cap.length) (hl : xs.length ≤ 1000000)
    (hG : ∀ σ σ' x v, Keep σ₁.length σ σ' → G σ x v → G σ' x v)
    (he : ∀ x ρ l t, x ∈ xs → P ρ → getV ρ i = some (u x) → ∃ v t', e (k.still f) ρ (σ₁ ++ .list l :: t) = some (v, σ₁ ++ .list l :: (t ++ t')) ∧ G (σ₁ ++ .list l :: (t ++ t')) x v) :
    ∃ vs t, cComp (.one i) it (fun acc => gIfs [] (gEmit acc e)) cap k ρ σ = some (.ref σ₁.length, σ₁ ++ .list vs :: t) ∧ All2 (G (σ₁ ++ .list vs :: t)) xs vs := by
  obtain ⟨ρ', σ', hf, vs, t, hσ, hw, _⟩ := forP_inv (body := gIfs [] (gEmit σ₁.length e) (k.still f)) (t := .one i)
    (I := fun d ρ σ' => ∃ vs t, σ' = σ₁ ++ .list vs :: t ∧ All2 (G σ') (xs.take d) vs ∧ P ρ ∧ i < ρ.length)
    (xs.map u) 0 (ρ := capture ρ cap) (σ := σ₁ ++ [.list []]) (by
      rintro d v ρ σ' hv ⟨vs, t, rfl, hw, hp, hi⟩
      rw [List.getElem?_map, Option.map_eq_some_iff] at hv
      obtain ⟨x, hx, rfl⟩ := hv
      rw [Nat.zero_add] at hw ⊢
      obtain ⟨v, t', e1, e2⟩ := he x (setAt ρ i (some (u x))) vs t (List.mem_of_getElem? hx) (hP _ _ hp) (getV_setAt hi)
      have hvl : vs.length < 1000000 := by
        have h1 := hw.length
        have h2 := (List.getElem?_eq_some_iff.mp hx).1
        rw [List.length_take] at h1
        omega
      refine ⟨_, _, _, bindT_one, (?_ : gEmit σ₁.length e (k.still f) _ _ = some (.next, setAt ρ i (some (u x)), σ₁ ++ .list (vs ++ [v]) :: (t ++ t'))), vs ++ [v], t ++ t', rfl, ?_, hP _ _ hp, by rw [setAt_length]; exact hi⟩
      · unfold gEmit
        rw [e1, bnd_mk, append_at hm hvl, bnd_mk]
      · rw [List.take_add_one, hx]
        have hk := Keep.app (n := σ₁.length) (σ := σ₁ ++ .list vs :: t) (t := t')
        rw [List.append_assoc, List.cons_append] at hk
        exact All2.snoc (hG _ _ _ _ keep_list e2) (hw.mono fun x v h => hG _ _ _ _ (Keep.trans hk (keep_list (l := vs))) h)) ⟨[], [], rfl, .nil, h0, by rw [capture_length]; exact hi⟩
  rw [Nat.zero_add, List.length_map, List.take_length] at hw
  subst hσ
  refine ⟨vs, t, ?_, hw⟩
  unfold cComp
  rw [hit, bnd_mk, frN_eq, len_eq, frS_eq, app_eq, frS_eq]
  show nxtO (forP _ _ _ _ _) _ = _
  rw [hf]
  rfl
/-- refs to lists of numbers -/
def RefL (σ : Hp) (l : List Nat) (v : MV) : Prop := ∃ j, v = .ref j ∧ σ[j]? = some (.list (nL l))
/-- the sizes' range, iterated -/
theorem range_items {k : Kx} {ρ : Lo} {σ : Hp} {x : CE} {j a b : Nat} (h : x k ρ σ = some (.ref j, σ)) (ho : σ[j]? = some (.range (.ofNat a) (.ofNat b) 1)) (ha : a < 1073741824) (hb : b < 1073741824) :
    iE x k ρ σ = some (.plain none ((List.range (b - a)).map fun i => .int (.ofNat (a + i))), σ) := by
  unfold iE
  rw [h, bnd_mk]
  have : itemsV σ (.ref j) = some (none, (List.range (b - a)).map fun i => .int (.ofNat (a + i))) := by
    unfold itemsV
    dsimp only
    rw [getO_at ho]
    dsimp only
    have h1 : W.Z.ltB 0 1 = true := by decide
    have h2 : small 1 = true := by decide
    rw [h1, cnd_t, small_nat ha, cnd_t, small_nat hb, cnd_t, h2, cnd_t, frVs_eq, rangeL_eq]
    have : ((Int.ofNat b) - (Int.ofNat a)).toNat = b - a := by
      show ((b : Int) - (a : Int)).toNat = _
      omega
    rw [this]
    rfl
  rw [this, bnd_mk]
/-- the words: the numbers' residues by each size -/
def resL (r : List Nat) (m : Nat) : List (List Nat) := (List.range m).map fun i => r.map (· % (1 + i))
noncomputable section
def wordsE : CE := cComp (.one 1) (iE (cLoc 3)) (fun acc => (gIfs [] (gEmit acc (cComp (.one 1) (iE (cLoc 2)) (fun acc => (gIfs [] (gEmit acc (cBin modV (cLoc 1) (cLoc 2))))) [none, none, some 1])))) [none, none, some 2]
end
theorem words_eq {k : Kx} {ρ : Lo} {σ : Hp} {r : List Nat} {q s m : Nat} (hk : k.n₀ ≤ σ.length) (hfz : k.fz = []) (h2 : getV ρ 2 = some (.ref q)) (h3 : getV ρ 3 = some (.ref s)) (hq : σ[q]? = some (.list (nL r))) (hs : σ[s]? = some (.range (.ofNat 1) (.ofNat (m + 1)) 1)) (hm : m ≤ 1000) (hr : r.length ≤ 1000) :
    ∃ vs t, wordsE k ρ σ = some (.ref σ.length, σ ++ .list vs :: t) ∧ All2 (RefL (σ ++ .list vs :: t)) (resL r m) vs := by
  have hit := range_items (k := k) (ρ := ρ) (cLoc_eq h3) hs (by decide) (by omega)
  have hql := (List.getElem?_eq_some_iff.mp hq).1
  have hm2 : (k.still none).mut σ.length = true := Kx.mut_of hk (by show memN _ k.fz = false; rw [hfz]; rfl)
  obtain ⟨vs, t, e1, e2⟩ := comp_gen (e := cComp (.one 1) (iE (cLoc 2)) (fun acc => (gIfs [] (gEmit acc (cBin modV (cLoc 1) (cLoc 2))))) [none, none, some 1]) (i := 1) (u := fun i => .int (.ofNat (1 + i))) (cap := [none, none, some 2]) (xs := List.range (m + 1 - 1))
    (P := fun ρ => getV ρ 2 = some (.ref q)) (G := fun σ' i v => ∃ j, j ≠ σ.length ∧ v = .ref j ∧ σ'[j]? = some (.list (nL (r.map (· % (1 + i)))))) hit hm2
    (by show getV [none, none, getV ρ 2] 2 = _; rw [h2]; rfl) (fun ρ v h => (getV_setAt_ne (by decide)).trans h) (by decide) (by rw [List.length_range]; omega)
    (fun σ' σ'' i v hk h => by obtain ⟨j, h1, h2, h3⟩ := h; exact ⟨j, h1, h2, hk j _ h1 h3⟩)
    (fun i ρ₁ l t hi hp hx => by
      have hq2 : (σ ++ MO.list l :: t)[q]? = some (.list (nL r)) := get_app hq
      have hln : (σ ++ MO.list l :: t).length = σ.length + (t.length + 1) := by rw [List.length_append]; rfl
      have h := cComp_eqP (k := k.still none) (ρ := ρ₁) (σ := σ ++ .list l :: t) (e := cBin modV (cLoc 1) (cLoc 2)) (u := fun x => .int (.ofNat x)) (g := fun x => .int (.ofNat (x % (1 + i)))) (i := 1) (cap := [none, none, some 1]) (xs := r)
        (P := fun ρ => getV ρ 2 = some (.int (.ofNat (1 + i)))) (iE_list (j := q) (cLoc_eq hp) (getO_at hq2)) (Kx.mut_of (by show k.n₀ ≤ _; rw [hln]; omega) (by show memN _ (q :: k.fz) = false; rw [hfz]; exact memN_cons (by rw [hln]; omega) rfl))
        (by show getV [none, none, getV ρ₁ 1] 2 = _; rw [hx]; rfl) (fun ρ v h => (getV_setAt_ne (by decide)).trans h)
        (fun x ρ₂ σ' hP hx => (cBin_eq (f := modV) (cLoc_eq hx) (cLoc_eq hP)).trans (modN _ _ _ (by omega))) (by decide) (by omega)
      refine ⟨_, [MO.list (r.map fun x => .int (.ofNat (x % (1 + i))))], by rw [h, List.append_assoc]; rfl, _, ?_, rfl, ?_⟩
      · rw [hln]; omega
      · have e4 : σ ++ MO.list l :: (t ++ [MO.list (r.map fun x => MV.int (.ofNat (x % (1 + i))))]) = (σ ++ MO.list l :: t) ++ [MO.list (r.map fun x => MV.int (.ofNat (x % (1 + i))))] := by simp
        rw [e4, List.getElem?_append_right (Nat.le_refl _), Nat.sub_self]
        unfold nL
        rw [List.map_map]
        rfl)
  refine ⟨vs, t, e1, ?_⟩
  rw [Nat.add_sub_cancel] at e2
  exact e2.map fun i v h => by
    obtain ⟨j, _, h2, h3⟩ := h
    exact ⟨j, h2, h3⟩
end Mine.L2
end

section
set_option maxRecDepth 100000
namespace Mine.L2
open PySem Mine Mine.Pre
theorem All2.zip_mem {α : Type} {G : α → MV → Prop} {xs : List α} {vs : List MV} (w : All2 G xs vs) : ∀ p ∈ xs.zip vs, G p.1 p.2 ∧ p.1 ∈ xs := by
  induction w with
  | nil => intro p hp; cases hp
  | cons a _ ih =>
    intro p hp
    rcases List.mem_cons.mp hp with rfl | hp
    · exact ⟨a, List.mem_cons_self⟩
    · exact ⟨(ih p hp).1, List.mem_cons_of_mem _ (ih p hp).2⟩
theorem All2.eq_map {α : Type} {f : α → MV} {xs : List α} {vs : List MV} (w : All2 (fun x v => v = f x) xs vs) : vs = xs.map f := by
  induction w with
  | nil => rfl
  | cons a _ ih => rw [a, ih]; rfl
/-- b''.join over refs to lists, each turned to bytes by F -/
theorem join_refs {k : Kx} {e : CE} {x : CE} {ρ : Lo} {σ : Hp} {ls : List (List Nat)} {vs : List MV} {j : Nat} {cap : List (Option Nat)} {F : List Nat → List Nat} (hk : k.n₀ ≤ σ.length) (hfz : k.fz = []) (hx : x k ρ σ = some (.ref j, σ)) (hj : σ[j]? = some (.list vs)) (w : All2 (RefL σ) ls vs)
    (hc : 1 < cap.length) (hl : ls.length ≤ 1000) (hF : (ls.map F).flatten.length ≤ 1000000)
    (he : ∀ l q (k : Kx) ρ σ', l ∈ ls → σ'[q]? = some (.list (nL l)) → getV ρ 1 = some (.ref q) → ∃ t', e k ρ σ' = some (.bytes (F l), σ' ++ t')) :
    ∃ t, cMeth isBy joinV (cVal (.bytes [])) (cComp (.one 1) (iE x) (fun acc => (gIfs [] (gEmit acc e))) cap) k ρ σ = some (.bytes (ls.map F).flatten, σ ++ t) := by
  have hlen := w.length
  have hsnd : (ls.zip vs).map Prod.snd = vs := List.map_snd_zip (by omega)
  have hfst : (ls.zip vs).map Prod.fst = ls := List.map_fst_zip (by omega)
  have hjl := (List.getElem?_eq_some_iff.mp hj).1
  have hit : iE x k ρ σ = some (.plain (some j) ((ls.zip vs).map Prod.snd), σ) := by rw [hsnd]; exact iE_list hx (getO_at hj)
  obtain ⟨zs, t, e1, e2⟩ := comp_gen (e := e) (i := 1) (u := Prod.snd) (cap := cap) (xs := ls.zip vs) (P := fun _ => True) (G := fun _ p z => z = MV.bytes (F p.1)) hit
    (Kx.mut_of (by exact hk) (by show memN _ (j :: k.fz) = false; rw [hfz]; exact memN_cons (by omega) rfl)) trivial (fun _ _ _ => trivial) hc (by rw [List.length_zip]; omega) (fun _ _ _ _ _ h => h)
    (fun p ρ l t hp _ hv => by
      obtain ⟨⟨q, hq1, hq2⟩, hm⟩ := w.zip_mem p hp
      rw [hq1] at hv
      obtain ⟨t', e1⟩ := he p.1 q (k.still (some j)) ρ (σ ++ .list l :: t) hm (get_app hq2) hv
      exact ⟨_, t', by rw [e1, List.append_assoc]; rfl, rfl⟩)
  have hz : zs = ((ls.map F).map MV.bytes) := by
    rw [e2.eq_map, List.map_map]
    conv => rhs; rw [← hfst, List.map_map]
    rfl
  subst hz
  refine ⟨MO.list ((ls.map F).map MV.bytes) :: t, ?_⟩
  rw [cMeth_eq (f := joinV) (q := isBy) (show cVal (.bytes []) _ _ _ = some (.bytes [], _) from rfl) rfl e1]
  exact join_eq (by rw [List.getElem?_append_right (Nat.le_refl _), Nat.sub_self]; rfl) hF
def insN (a : Nat) : List Nat → List Nat
  | [] => [a]
  | b :: l => if Nat.ble a b then a :: b :: l else b :: insN a l
def sortN : List Nat → List Nat
  | [] => []
  | a :: l => insN a (sortN l)
theorem ins_nat (a : Nat) : ∀ l : List Nat, ins (.ofNat a) (l.map Int.ofNat) = (insN a l).map Int.ofNat
  | [] => rfl
  | b :: l => by
    show cnd (W.Z.leB (.ofNat a) (.ofNat b)) _ _ = _
    have : W.Z.leB (.ofNat a) (.ofNat b) = Nat.ble a b := by
      rw [Bool.eq_iff_iff, W.Z.leB_iff, W.Z.ble_iff]
      exact Int.ofNat_le
    rw [this, cnd_eq, ins_nat a l]
    show _ = List.map Int.ofNat (if Nat.ble a b then a :: b :: l else b :: insN a l)
    split <;> rfl
theorem sort_nat : ∀ l : List Nat, sortI (l.map Int.ofNat) = (sortN l).map Int.ofNat
  | [] => rfl
  | a :: l => by
    show ins (.ofNat a) (sortI (l.map Int.ofNat)) = _
    rw [sort_nat l, ins_nat]
    rfl
theorem insN_mem {a x : Nat} : ∀ {l : List Nat}, x ∈ insN a l → x = a ∨ x ∈ l
  | [], h => .inl (List.mem_singleton.mp h)
  | b :: l, h => by
    unfold insN at h
    split at h
    · rcases List.mem_cons.mp h with h | h
      · exact .inl h
      · exact .inr h
    · rcases List.mem_cons.mp h with h | h
      · exact .inr (by rw [h]; exact List.mem_cons_self)
      · rcases insN_mem h with h | h
        · exact .inl h
        · exact .inr (List.mem_cons_of_mem _ h)
theorem sortN_mem {x : Nat} : ∀ {l : List Nat}, x ∈ sortN l → x ∈ l
  | [], h => h
  | a :: l, h => by
    rcases insN_mem h with h | h
    · rw [h]; exact List.mem_cons_self
    · exact List.mem_cons_of_mem _ (sortN_mem h)
theorem insN_len (a : Nat) : ∀ l, (insN a l).length = l.length + 1
  | [] => rfl
  | b :: l => by
    unfold insN
    split
    · rfl
    · rw [List.length_cons, insN_len a l]; rfl
theorem sortN_len : ∀ l, (sortN l).length = l.length
  | [] => rfl
  | a :: l => by
    show (insN a (sortN l)).length = _
    rw [insN_len, sortN_len l]; rfl
theorem sorted_nL {σ : Hp} {j : Nat} {l : List Nat} (h : σ[j]? = some (.list (nL l))) (hl : l.length ≤ 60) : sortedV σ (.ref j) = some (.ref σ.length, σ ++ [.list (nL (sortN l))]) := by
  have e : nL l = (l.map Int.ofNat).map .int := by unfold nL; rw [List.map_map]; rfl
  rw [e] at h
  rw [sortedL_eq (getO_at h) (by rw [List.length_map]; exact hl), sort_nat]
  unfold nL
  rw [List.map_map]
  rfl
/-- bytes(sorted(word)[::-1]) -/
theorem srev_eq {k : Kx} {ρ : Lo} {σ : Hp} {q : Nat} {l : List Nat} (h : σ[q]? = some (.list (nL l))) (hv : getV ρ 1 = some (.ref q)) (hl : l.length ≤ 60) (h256 : ∀ c ∈ l, c < 256) : ∃ t', cB1 bytesV (cRev (cB1 sortedV (cLoc 1))) k ρ σ = some (.bytes (sortN l).reverse, σ ++ t') := by
  have e1 := (cB1_eq (f := sortedV) (cLoc_eq (k := k) (σ := σ) hv)).trans (sorted_nL h hl)
  have e2 : cRev (cB1 sortedV (cLoc 1)) k ρ σ = some (.ref (σ.length + 1), σ ++ [.list (nL (sortN l)), .list (nL (sortN l).reverse)]) := by
    unfold cRev
    rw [e1, bnd_mk]
    unfold revV
    dsimp only
    rw [show getO (σ ++ [MO.list (nL (sortN l))]) σ.length = some (.list (nL (sortN l))) from getO_new (σ := σ) (i := 0) rfl]
    dsimp only
    rw [frS_eq, new_app]
    unfold nL
    rw [List.map_reverse]
    rfl
  refine ⟨_, (cB1_eq (f := bytesV) e2).trans (bytesN_eq (getO_new' (i := 1) rfl) fun a ha => h256 a (sortN_mem (List.mem_reverse.mp ha)))⟩
where getO_new' {σ t : Hp} {i : Nat} {o : MO} (h : t[i]? = some o) : (σ ++ t)[σ.length + i]? = some o := by rw [List.getElem?_append_right (Nat.le_add_right _ _), Nat.add_sub_cancel_left]; exact h
theorem resL_len (r : List Nat) (m : Nat) : (resL r m).length = m := by unfold resL; rw [List.length_map, List.length_range]
theorem resL_mem {r : List Nat} {m : Nat} {l : List Nat} (h : l ∈ resL r m) : l.length = r.length ∧ ∀ x ∈ l, ∃ y ∈ r, x ≤ y := by
  obtain ⟨i, _, rfl⟩ := List.mem_map.mp h
  refine ⟨List.length_map .., fun x hx => ?_⟩
  obtain ⟨y, hy, rfl⟩ := List.mem_map.mp hx
  exact ⟨y, hy, Nat.mod_le _ _⟩
theorem Five.mem {r : List Nat} (F : Five r) {y : Nat} (h : y ∈ r) : y ≤ 9 := by
  obtain ⟨i, hi⟩ := List.getElem?_of_mem h
  have := F.le i
  rw [List.getD_eq_getElem?_getD, hi] at this
  exact this
/-- the page at first -/
theorem page_eq {k : Kx} {ρ : Lo} {σ : Hp} {r : List Nat} {vs : List MV} {j m : Nat} (F : Five r) (hm : m ≤ 100) (hk : k.n₀ ≤ σ.length) (hfz : k.fz = []) (h5 : getV ρ 5 = some (.ref j)) (hj : σ[j]? = some (.list vs)) (w : All2 (RefL σ) (resL r m) vs) :
    ∃ t, cMeth isBy joinV (cVal (.bytes [])) (cComp (.one 1) (iE (cLoc 5)) (fun acc => (gIfs [] (gEmit acc (cB1 bytesV (cLoc 1))))) [none, none, none]) k ρ σ = some (.bytes (resL r m).flatten, σ ++ t) := by
  have h5l : ∀ l ∈ resL r m, l.length = 5 := fun l h => (resL_mem h).1.trans F.len
  have := join_refs (F := id) (e := cB1 bytesV (cLoc 1)) (cap := [none, none, none]) hk hfz (cLoc_eq h5) hj w (by decide) (by rw [resL_len]; omega) (by rw [List.map_id, flat_len h5l, resL_len]; omega)
    (fun l q k ρ σ' hl hq hv => ⟨[], by
      rw [cB1_eq (cLoc_eq hv), bytesN_eq hq (fun a ha => by obtain ⟨y, hy, hxy⟩ := (resL_mem hl).2 a ha; have := F.mem hy; omega), List.append_nil]; rfl⟩)
  rw [List.map_id] at this
  exact this
theorem sortedPage_eq {k : Kx} {ρ : Lo} {σ : Hp} {r : List Nat} {vs : List MV} {j m : Nat} (F : Five r) (hm : m ≤ 100) (hk : k.n₀ ≤ σ.length) (hfz : k.fz = []) (h5 : getV ρ 5 = some (.ref j)) (hj : σ[j]? = some (.list vs)) (w : All2 (RefL σ) (resL r m) vs) :
    ∃ t, cMeth isBy joinV (cVal (.bytes [])) (cComp (.one 1) (iE (cLoc 5)) (fun acc => (gIfs [] (gEmit acc (cB1 bytesV (cRev (cB1 sortedV (cLoc 1))))))) [none, none, none, none]) k ρ σ = some (.bytes ((resL r m).map fun l => (sortN l).reverse).flatten, σ ++ t) := by
  have h5l : ∀ l ∈ (resL r m).map (fun l => (sortN l).reverse), l.length = 5 := fun l h => by
    obtain ⟨z, hz, rfl⟩ := List.mem_map.mp h
    rw [List.length_reverse, sortN_len]
    exact (resL_mem hz).1.trans F.len
  exact join_refs (e := cB1 bytesV (cRev (cB1 sortedV (cLoc 1)))) (cap := [none, none, none, none]) hk hfz (cLoc_eq h5) hj w (by decide) (by rw [resL_len]; omega) (by rw [flat_len h5l, List.length_map, resL_len]; omega)
    (fun l q k ρ σ' hl hq hv => srev_eq hq hv (by rw [(resL_mem hl).1, F.len]; decide) fun a ha => by obtain ⟨y, hy, hxy⟩ := (resL_mem hl).2 a ha; have := F.mem hy; omega)
end Mine.L2
end

section
set_option maxRecDepth 100000
namespace Mine.L2
open PySem Mine Mine.Pre
def upT (d : Nat) : Bool := d % 2 == 0
def pageN (r : List Nat) (m : Nat) : Nat → List (List Nat)
  | 0 => resL r m
  | d + 1 => (pageN r m d).map fun x => (swapW (upT d) x).reverse
def spotsN (r : List Nat) (m : Nat) : Nat → List Nat
  | 0 => []
  | d + 1 => spotsN r m d ++ (wrongN (upT d) (pageN r m d) m).map fun x => x / 5 + 1
theorem swapW_ok {up : Bool} {x : List Nat} (h : x.length = 5) (h256 : ∀ c ∈ x, c < 256) : (swapW up x).reverse.length = 5 ∧ ∀ c ∈ (swapW up x).reverse, c < 256 := by
  exact ⟨(List.length_reverse ..).trans (swapW_len h), fun _ hc => swapW_mem h h256 (List.mem_reverse.mp hc)⟩
theorem pageN_ok {r : List Nat} (F : Five r) (m : Nat) : ∀ d, (pageN r m d).length = m ∧ (∀ x ∈ pageN r m d, x.length = 5) ∧ ∀ x ∈ pageN r m d, ∀ c ∈ x, c < 256
  | 0 => ⟨resL_len r m, fun x hx => (resL_mem hx).1.trans F.len, fun x hx c hc => by obtain ⟨y, hy, hxy⟩ := (resL_mem hx).2 c hc; have := F.mem hy; omega⟩
  | d + 1 => by
    obtain ⟨h1, h2, h3⟩ := pageN_ok F m d
    refine ⟨(List.length_map ..).trans h1, fun x hx => ?_, fun x hx => ?_⟩
    · obtain ⟨z, hz, rfl⟩ := List.mem_map.mp hx
      exact (swapW_ok (h2 z hz) (h3 z hz)).1
    · obtain ⟨z, hz, rfl⟩ := List.mem_map.mp hx
      exact (swapW_ok (h2 z hz) (h3 z hz)).2
theorem wrongN_len {up : Bool} {ws : List (List Nat)} (hw : ∀ x ∈ ws, x.length = 5) : (wrongN up ws ws.length).length ≤ 5 * ws.length := by
  rw [← wrong_eq hw ws.length (Nat.le_refl _)]
  refine Nat.le_trans (List.length_filter_le ..) ?_
  rw [List.length_range]
  exact Nat.le_refl _
theorem spotsN_len {r : List Nat} (F : Five r) {m : Nat} (hm : m ≤ 100) : ∀ d, (spotsN r m d).length ≤ 500 * d
  | 0 => Nat.le_refl _
  | d + 1 => by
    have h := spotsN_len F hm d
    obtain ⟨h1, h2, _⟩ := pageN_ok F m d
    have := wrongN_len (up := upT d) h2
    rw [h1] at this
    show (spotsN r m d ++ _).length ≤ _
    rw [List.length_append, List.length_map]
    omega
abbrev rL (v1 v4 v5 v6 v7 v8 v9 v10 v11 v12 v13 v14 : Option MV) : Lo := [some (.ref 0), v1, some (.ref 7), some (.ref 8), v4, v5, v6, v7, v8, v9, v10, v11, v12, v13, v14, none, none, none, none, none, none, none, none, none, none]
noncomputable section
def turnStep : CS := sSeq [
    sTp [9, 6] (cCall F_law_round [(cLoc 6), (cBin subV (cVal (.int (.ofNat 1))) (cBin mulV (cVal (.int (.ofNat 2))) (cBin modV (cLoc 8) (cVal (.int (.ofNat 2))))))]),
    sAugL 7 (cComp (.one 1) (iE (cLoc 9)) (fun acc => (gIfs [] (gEmit acc (cBin addV (cBin divV (cLoc 1) (cVal (.int (.ofNat 5)))) (cVal (.int (.ofNat 1))))))) [none, none])]
end
abbrev k₁ : Kx := ⟨1, []⟩
theorem iadd_eq {σ t : Hp} {x y : List MV} {q : Nat} (h1 : 1 ≤ σ.length) (hq : (σ ++ MO.list x :: t)[q]? = some (.list y)) (hne : q ≠ σ.length) (hl : x.length + y.length ≤ 1000000) : iaddV k₁ (σ ++ .list x :: t) (.ref σ.length) (.ref q) = some (σ ++ .list (x ++ y) :: t) := by
  unfold iaddV
  dsimp only
  rw [Kx.mut_of h1 rfl, cnd_t, show getO (σ ++ MO.list x :: t) σ.length = some (.list x) from getO_new (σ := σ) (t := MO.list x :: t) (i := 0) rfl, getO_at hq]
  dsimp only
  have : Nat.beq σ.length q = false := by
    cases z : Nat.beq σ.length q with
    | false => rfl
    | true => exact absurd (Nat.eq_of_beq_eq_true z).symm hne
  rw [this, cnd_f, frS_eq, app_eq, chk_eq _ (by simpa using hl), setK_eq]
  have := setAt_app σ (MO.list x :: t) 0 (.list (x ++ y))
  rw [Nat.add_zero] at this
  rw [this]
  rfl
theorem sense_eq {ρ : Lo} {σ : Hp} {d : Nat} (h : getV ρ 8 = some (.int (.ofNat d))) : cBin subV (cVal (.int (.ofNat 1))) (cBin mulV (cVal (.int (.ofNat 2))) (cBin modV (cLoc 8) (cVal (.int (.ofNat 2))))) k₁ ρ σ = some (.int (sgn (upT d)), σ) := by
  have a1 := (cBin_eq (f := modV) (cLoc_eq (k := k₁) (σ := σ) h) (show cVal (.int (.ofNat 2)) _ _ _ = some (.int (.ofNat 2), σ) from rfl)).trans (modN _ _ _ (by decide))
  have a2 := (cBin_eq (f := mulV) (show cVal (.int (.ofNat 2)) _ _ _ = some (.int (.ofNat 2), σ) from rfl) a1).trans (mulN _ _ _ (by decide))
  refine (cBin_eq (f := subV) (show cVal (.int (.ofNat 1)) _ _ _ = some (.int (.ofNat 1), σ) from rfl) a2).trans ((subI_eq ..).trans ?_)
  congr 3
  unfold sgn upT
  rcases Nat.mod_two_eq_zero_or_one d with q | q <;> rw [q] <;> rfl
theorem turn_eq {r : List Nat} (F : Five r) {m d : Nat} (hm : m ≤ 100) (hd : d ≤ 5) {σ t : Hp} (h1 : 1 ≤ σ.length) {v1 v4 v5 v9 v10 v11 v12 v13 v14 : Option MV} :
    ∃ t' v, turnStep k₁ (rL v1 v4 v5 (some (.bytes (pageN r m d).flatten)) (some (.ref σ.length)) (some (.int (.ofNat d))) v9 v10 v11 v12 v13 v14) (σ ++ .list (nL (spotsN r m d)) :: t) =
      some (.next, rL v1 v4 v5 (some (.bytes (pageN r m (d + 1)).flatten)) (some (.ref σ.length)) (some (.int (.ofNat d))) v v10 v11 v12 v13 v14, σ ++ .list (nL (spotsN r m (d + 1))) :: t') := by
  obtain ⟨hp1, hp2, hp3⟩ := pageN_ok F m d
  generalize hτ : σ ++ MO.list (nL (spotsN r m d)) :: t = τ
  obtain ⟨u, j, e1, e2, e3⟩ := round_eq (σ := τ) (up := upT d) hp2 hp3 (by omega)
  rw [hp1] at e3
  have hτl : σ.length < τ.length := by rw [← hτ, List.length_append, List.length_cons]; omega
  have c1 := (cCall2 (F := F_law_round) (cLoc_eq (k := k₁) (ρ := rL v1 v4 v5 (some (.bytes (pageN r m d).flatten)) (some (.ref σ.length)) (some (.int (.ofNat d))) v9 v10 v11 v12 v13 v14) (σ := τ) (i := 6) (v := .bytes (pageN r m d).flatten) rfl) (sense_eq rfl)).trans e1
  have s1 : sTp [9, 6] (cCall F_law_round [(cLoc 6), (cBin subV (cVal (.int (.ofNat 1))) (cBin mulV (cVal (.int (.ofNat 2))) (cBin modV (cLoc 8) (cVal (.int (.ofNat 2))))))]) k₁ (rL v1 v4 v5 (some (.bytes (pageN r m d).flatten)) (some (.ref σ.length)) (some (.int (.ofNat d))) v9 v10 v11 v12 v13 v14) τ =
      some (.next, rL v1 v4 v5 (some (.bytes (pageN r m (d + 1)).flatten)) (some (.ref σ.length)) (some (.int (.ofNat d))) (some (.ref τ.length)) v10 v11 v12 v13 v14, τ ++ u) := by
    unfold sTp
    rw [c1, bnd_mk]
    unfold unpackV
    dsimp only
    rw [getO_at e2]
    rfl
  have hul : τ.length < (τ ++ u).length := (List.getElem?_eq_some_iff.mp e3).1
  have c2 := cComp_eq (k := k₁) (ρ := rL v1 v4 v5 (some (.bytes (pageN r m (d + 1)).flatten)) (some (.ref σ.length)) (some (.int (.ofNat d))) (some (.ref τ.length)) v10 v11 v12 v13 v14) (σ := τ ++ u) (e := cBin addV (cBin divV (cLoc 1) (cVal (.int (.ofNat 5)))) (cVal (.int (.ofNat 1)))) (u := fun x => .int (.ofNat x)) (g := fun x => .int (.ofNat (x / 5 + 1))) (i := 1) (cap := [none, none]) (xs := wrongN (upT d) (pageN r m d) m)
    (iE_list (j := τ.length) (cLoc_eq (i := 9) rfl) (getO_at e3)) (Kx.mut_of (by show 1 ≤ _; omega) (memN_cons (by omega) rfl))
    (fun x ρ σ' hx => (cBin_eq (f := addV) ((cBin_eq (f := divV) (cLoc_eq hx) (show cVal (.int (.ofNat 5)) _ _ _ = some (.int (.ofNat 5), _) from rfl)).trans (divN _ _ _ (by decide) (by decide))) (show cVal (.int (.ofNat 1)) _ _ _ = some (.int (.ofNat 1), _) from rfl)).trans (addN ..))
    (by decide) (by have := wrongN_len (up := upT d) hp2; rw [hp1] at this; omega)
  have e4 : (τ ++ u) ++ [MO.list ((wrongN (upT d) (pageN r m d) m).map fun x => MV.int (.ofNat (x / 5 + 1)))] = σ ++ MO.list (nL (spotsN r m d)) :: (t ++ u ++ [MO.list ((wrongN (upT d) (pageN r m d) m).map fun x => MV.int (.ofNat (x / 5 + 1)))]) := by rw [← hτ]; simp
  have hq : ((τ ++ u) ++ [MO.list ((wrongN (upT d) (pageN r m d) m).map fun x => MV.int (.ofNat (x / 5 + 1)))])[(τ ++ u).length]? = some (.list ((wrongN (upT d) (pageN r m d) m).map fun x => MV.int (.ofNat (x / 5 + 1)))) := by
    rw [List.getElem?_append_right (Nat.le_refl _), Nat.sub_self]; rfl
  rw [e4] at c2 hq
  have hsl := spotsN_len F hm d
  have i1 := iadd_eq h1 hq (by omega) (by
    unfold nL
    rw [List.length_map, List.length_map]
    have := wrongN_len (up := upT d) hp2
    rw [hp1] at this
    omega)
  have s2 : sAugL 7 (cComp (.one 1) (iE (cLoc 9)) (fun acc => (gIfs [] (gEmit acc (cBin addV (cBin divV (cLoc 1) (cVal (.int (.ofNat 5)))) (cVal (.int (.ofNat 1))))))) [none, none]) k₁ (rL v1 v4 v5 (some (.bytes (pageN r m (d + 1)).flatten)) (some (.ref σ.length)) (some (.int (.ofNat d))) (some (.ref τ.length)) v10 v11 v12 v13 v14) (τ ++ u) =
      some (.next, rL v1 v4 v5 (some (.bytes (pageN r m (d + 1)).flatten)) (some (.ref σ.length)) (some (.int (.ofNat d))) (some (.ref τ.length)) v10 v11 v12 v13 v14, σ ++ .list (nL (spotsN r m (d + 1))) :: (t ++ u ++ [MO.list ((wrongN (upT d) (pageN r m d) m).map fun x => MV.int (.ofNat (x / 5 + 1)))])) := by
    unfold sAugL
    show bd1 (some (MV.ref σ.length)) _ = _
    rw [bd1_mk, c2, bnd_mk, i1, bd1_mk]
    have en : nL (spotsN r m d) ++ (wrongN (upT d) (pageN r m d) m).map (fun x => MV.int (.ofNat (x / 5 + 1))) = nL (spotsN r m (d + 1)) := by
      show _ = nL (spotsN r m d ++ (wrongN (upT d) (pageN r m d) m).map fun x => x / 5 + 1)
      unfold nL
      rw [List.map_append, List.map_map]
      rfl
    rw [en]
  refine ⟨t ++ u ++ [MO.list ((wrongN (upT d) (pageN r m d) m).map fun x => MV.int (.ofNat (x / 5 + 1)))], some (.ref τ.length), ?_⟩
  unfold turnStep
  exact (sSeq_cons s1).trans (sSeq_one s2)
theorem turns_eq {r : List Nat} (F : Five r) {m : Nat} (hm : m ≤ 100) {σ t : Hp} (h1 : 1 ≤ σ.length) {v1 v4 v5 v8 v9 v10 v11 v12 v13 v14 : Option MV} :
    ∃ t' v w, sFor (.one 8) (iR [(cVal (.int (.ofNat 5)))]) turnStep k₁ (rL v1 v4 v5 (some (.bytes (pageN r m 0).flatten)) (some (.ref σ.length)) v8 v9 v10 v11 v12 v13 v14) (σ ++ .list [] :: t) =
      some (.next, rL v1 v4 v5 (some (.bytes (pageN r m 5).flatten)) (some (.ref σ.length)) w v v10 v11 v12 v13 v14, σ ++ .list (nL (spotsN r m 5)) :: t') := by
  have hr := iR1 (k := k₁) (ρ := rL v1 v4 v5 (some (.bytes (pageN r m 0).flatten)) (some (.ref σ.length)) v8 v9 v10 v11 v12 v13 v14) (σ := σ ++ .list [] :: t) (x := cVal (.int (.ofNat 5))) (b := 5) rfl (by decide)
  obtain ⟨ρ', σ', hf, hI⟩ := forP_inv (body := turnStep k₁) (t := .one 8)
    (I := fun d ρ σ' => d ≤ 5 ∧ ∃ t v w, σ' = σ ++ .list (nL (spotsN r m d)) :: t ∧ ρ = rL v1 v4 v5 (some (.bytes (pageN r m d).flatten)) (some (.ref σ.length)) w v v10 v11 v12 v13 v14)
    ((List.range 5).map fun i => .int (.ofNat i)) 0 (ρ := rL v1 v4 v5 (some (.bytes (pageN r m 0).flatten)) (some (.ref σ.length)) v8 v9 v10 v11 v12 v13 v14) (σ := σ ++ .list [] :: t) (by
      rintro d v ρ σ' hv ⟨hd, t, v', w, rfl, rfl⟩
      obtain ⟨hi, rfl⟩ := range_get hv
      rw [Nat.zero_add] at hd ⊢
      obtain ⟨t', v'', e⟩ := turn_eq (t := t) F hm hd h1 (v1 := v1) (v4 := v4) (v5 := v5) (v9 := v') (v10 := v10) (v11 := v11) (v12 := v12) (v13 := v13) (v14 := v14)
      exact ⟨_, _, _, bindT_one, e, hi, t', _, _, rfl, rfl⟩) ⟨Nat.zero_le _, t, v9, v8, rfl, rfl⟩
  obtain ⟨_, t', v, w, rfl, rfl⟩ := hI
  exact ⟨t', v, w, sFor_plain hr hf⟩
end Mine.L2
end

section
set_option maxRecDepth 100000
namespace Mine.L2
open PySem Mine Mine.Pre
def mapI {α β : Type} (g : Nat → α → β) : Nat → List α → List β
  | _, [] => []
  | d, x :: xs => g d x :: mapI g (d + 1) xs
theorem mapI_snoc {α β : Type} (g : Nat → α → β) (x : α) : ∀ (l : List α) (d : Nat), mapI g d (l ++ [x]) = mapI g d l ++ [g (d + l.length) x]
  | [], d => rfl
  | y :: l, d => by
    show g d y :: mapI g (d + 1) (l ++ [x]) = _
    rw [mapI_snoc g x l (d + 1), List.length_cons, Nat.add_right_comm, Nat.add_assoc]
    rfl
theorem mapI_len {α β : Type} (g : Nat → α → β) : ∀ (l : List α) (d : Nat), (mapI g d l).length = l.length
  | [], _ => rfl
  | _ :: l, d => congrArg (· + 1) (mapI_len g l (d + 1))
theorem mapI_map {α β γ : Type} (g : Nat → α → β) (f : β → γ) : ∀ (l : List α) (d : Nat), (mapI g d l).map f = mapI (fun i x => f (g i x)) d l
  | [], _ => rfl
  | _ :: l, d => by
    show f _ :: (mapI g (d + 1) l).map f = _
    rw [mapI_map g f l (d + 1)]
    rfl
/-- a comprehension over an enumerate -/
theorem comp_enum {k : Kx} {e : CE} {a b : Nat} {α : Type} {u : α → MV} {g : Nat → α → MV} {it : CI} {cap : List (Option Nat)} {ρ : Lo} {σ σ₁ : Hp} {f : Option Nat} {xs : List α} {P : Lo → Prop}
    (hit : it k ρ σ = some (.enum f (xs.map u), σ₁)) (hm : (k.still f).mut σ₁.length = true) (h0 : P (capture ρ cap)) (hP : ∀ ρ i v, i = a ∨ i = b → P ρ → P (setAt ρ i v)) (hab : a ≠ b) (ha : a < cap.length) (hb : b < cap.length) (hl : xs.length ≤ 100000)
    (he : ∀ i x ρ σ, i < xs.length → P ρ → getV ρ a = some (.int (.ofNat i)) → getV ρ b = some (u x) → e (k.still f) ρ σ = some (g i x, σ)) :
    cComp (.many [a, b]) it (fun acc => gIfs [] (gEmit acc e)) cap k ρ σ = some (.ref σ₁.length, σ₁ ++ [.list (mapI g 0 xs)]) := by
  obtain ⟨ρ', σ', hf, hσ, _⟩ := forE_inv (body := gIfs [] (gEmit σ₁.length e) (k.still f)) (a := a) (b := b)
    (I := fun d ρ σ' => σ' = σ₁ ++ [MO.list (mapI g 0 (xs.take d))] ∧ P ρ ∧ a < ρ.length ∧ b < ρ.length) (xs.map u) 0 (ρ := capture ρ cap) (σ := σ₁ ++ [.list []]) (by
      rintro d v ρ σ' hv ⟨rfl, hp, ha, hb⟩
      rw [List.getElem?_map, Option.map_eq_some_iff] at hv
      obtain ⟨x, hx, rfl⟩ := hv
      rw [Nat.zero_add]
      have hd := (List.getElem?_eq_some_iff.mp hx).1
      have hvl : (mapI g 0 (xs.take d)).length < 1000000 := by rw [mapI_len, List.length_take]; omega
      have e1 := he d x (setAt (setAt ρ a (some (.int (.ofNat d)))) b (some (u x))) (σ₁ ++ [.list (mapI g 0 (xs.take d))]) hd (hP _ _ _ (.inr rfl) (hP _ _ _ (.inl rfl) hp))
        ((getV_setAt_ne (Ne.symm hab)).trans (getV_setAt ha)) (getV_setAt (by rw [setAt_length]; exact hb))
      have e2 := emit_eq (k := k.still f) (σ₀ := σ₁) hm rfl hvl e1
      refine ⟨_, _, e2, ?_, hP _ _ _ (.inr rfl) (hP _ _ _ (.inl rfl) hp), by rw [setAt_length, setAt_length]; exact ha, by rw [setAt_length, setAt_length]; exact hb⟩
      rw [List.take_add_one, hx, Option.toList_some, mapI_snoc, Nat.zero_add, List.length_take, Nat.min_eq_left (Nat.le_of_lt hd)]) ⟨rfl, h0, by rw [capture_length]; exact ha, by rw [capture_length]; exact hb⟩
  rw [Nat.zero_add, List.length_map, List.take_length] at hσ
  unfold cComp
  rw [hit, bnd_mk, frN_eq, len_eq, frS_eq, app_eq, frS_eq]
  show nxtO (forE _ _ _ _ _ _ _) _ = _
  rw [hf, hσ]
  rfl
theorem sumI_nat : ∀ (l : List Nat) (a : Nat), sumI (l.map Int.ofNat) (.ofNat a) = .ofNat (a + l.sum)
  | [], a => by simp [sumI]
  | b :: l, a => by
    show sumI (l.map Int.ofNat) (Int.ofNat a + Int.ofNat b) = _
    have : Int.ofNat a + Int.ofNat b = Int.ofNat (a + b) := rfl
    rw [this, sumI_nat l (a + b), List.sum_cons, Nat.add_assoc]
theorem cnt_nat (s : Nat) : ∀ l : List Nat, cntB (.int (.ofNat s)) (nL l) = l.count s
  | [] => rfl
  | a :: l => by
    show cnd (W.Z.eqB (.ofNat a) (.ofNat s)) (Nat.add (cntB (.int (.ofNat s)) (nL l)) 1) (cntB (.int (.ofNat s)) (nL l)) = _
    rw [cnt_nat s l, List.count_cons]
    have : W.Z.eqB (.ofNat a) (.ofNat s) = (a == s) := by
      rw [Bool.eq_iff_iff, W.Z.eqB_iff, beq_iff_eq]
      constructor
      · intro h; exact Int.ofNat.inj h
      · intro h; rw [h]
    rw [this]
    cases (a == s) <;> rfl
theorem same_nat (s : Nat) : ∀ l : List Nat, sameK (.int (.ofNat s)) (nL l) = true
  | [] => rfl
  | a :: l => by
    show cnd true (sameK (.int (.ofNat s)) (nL l)) false = true
    rw [cnd_t, same_nat s l]
theorem count_eq {k : Kx} {σ : Hp} {j s : Nat} {l : List Nat} (h : σ[j]? = some (.list (nL l))) : countLV k σ (.ref j) (.int (.ofNat s)) = some (.int (.ofNat (l.count s)), σ) := by
  unfold countLV
  dsimp only
  rw [getO_at h]
  dsimp only
  unfold countV
  rw [same_nat, cnd_t, bd1_mk, retN_eq, cnt_nat]
theorem isL_at {σ : Hp} {j : Nat} {l : List MV} (h : σ[j]? = some (.list l)) : isL σ (.ref j) = true := by
  unfold isL
  dsimp only
  rw [getO_at h]
/-- the first indent's column, as the law reckons it -/
def colT (r : List Nat) (s : Nat) : Nat := s * (mapI (fun late x => late * (x / s + 2)) 0 r).sum
def toldN (r : List Nat) (sp : List Nat) : Nat → List (Nat × Nat × Nat)
  | 0 => []
  | d + 1 => toldN r sp d ++ [(1 + d, colT r (1 + d), colT r (1 + d) - (1 + d) * sp.count (1 + d))]
theorem toldN_len (r sp : List Nat) : ∀ d, (toldN r sp d).length = d
  | 0 => rfl
  | d + 1 => by
    show (toldN r sp d ++ _).length = _
    rw [List.length_append, toldN_len r sp d]; rfl
noncomputable section
def toldStep : CS := sSeq [
    sNm 11 (cBin mulV (cLoc 4) (cB1 sumV (cComp (.many [1, 2]) (iN (cLoc 2)) (fun acc => (gIfs [] (gEmit acc (cBin mulV (cLoc 1) (cBin addV (cBin divV (cLoc 2) (cLoc 3)) (cVal (.int (.ofNat 2)))))))) [none, none, none, some 4]))),
    sExp (cMeth isL appendV (cLoc 10) (cTup [(cLoc 4), (cLoc 11), (cBin subV (cLoc 11) (cBin mulV (cLoc 4) (cMeth isL countLV (cLoc 7) (cLoc 4))))]))]
end
theorem toldStep_eq {r sp : List Nat} (F : Five r) {σ t : Hp} {vs : List MV} {l : List (Nat × Nat × Nat)} {d js : Nat} (hd : d ≤ 1000) (h1 : 1 ≤ σ.length) (h7 : σ[7]? = some (.list (nL r))) (hs : σ[js]? = some (.list (nL sp))) (hle : (1 + d) * sp.count (1 + d) ≤ colT r (1 + d)) (hr : Rows (σ ++ .list vs :: t) vs l) (hv : vs.length < 1000000)
    {v1 v5 v6 v8 v9 v11 v12 v13 v14 : Option MV} :
    ∃ vs' t' v, toldStep k₁ (rL v1 (some (.int (.ofNat (1 + d)))) v5 v6 (some (.ref js)) v8 v9 (some (.ref σ.length)) v11 v12 v13 v14) (σ ++ .list vs :: t) =
      some (.next, rL v1 (some (.int (.ofNat (1 + d)))) v5 v6 (some (.ref js)) v8 v9 (some (.ref σ.length)) v v12 v13 v14, σ ++ .list vs' :: t') ∧ Rows (σ ++ .list vs' :: t') vs' (l ++ [(1 + d, colT r (1 + d), colT r (1 + d) - (1 + d) * sp.count (1 + d))]) := by
  have h7l := (List.getElem?_eq_some_iff.mp h7).1
  have hτl : σ.length < (σ ++ MO.list vs :: t).length := by rw [List.length_append, List.length_cons]; omega
  have hit : iN (cLoc 2) k₁ (rL v1 (some (.int (.ofNat (1 + d)))) v5 v6 (some (.ref js)) v8 v9 (some (.ref σ.length)) v11 v12 v13 v14) (σ ++ .list vs :: t) = some (.enum (some 7) (r.map fun x => .int (.ofNat x)), σ ++ .list vs :: t) := by
    unfold iN
    rw [cLoc_eq (v := .ref 7) rfl, bnd_mk]
    unfold listV?
    dsimp only
    rw [getO_at (get_app h7)]
    rfl
  have c1 := comp_enum (e := cBin mulV (cLoc 1) (cBin addV (cBin divV (cLoc 2) (cLoc 3)) (cVal (.int (.ofNat 2))))) (a := 1) (b := 2) (g := fun late x => MV.int (.ofNat (late * (x / (1 + d) + 2)))) (cap := [none, none, none, some 4]) (P := fun ρ => getV ρ 3 = some (.int (.ofNat (1 + d)))) hit
    (Kx.mut_of (by show 1 ≤ _; omega) (memN_cons (by omega) rfl)) rfl (fun ρ i v hi h => (getV_setAt_ne (by rcases hi with rfl | rfl <;> decide)).trans h) (by decide) (by decide) (by decide) (by rw [F.len]; decide)
    (fun i x ρ σ' hi5 hp hi hx => by
      have a1 := (cBin_eq (f := addV) ((cBin_eq (f := divV) (cLoc_eq (k := Kx.still k₁ (some 7)) (σ := σ') hx) (cLoc_eq hp)).trans (divN _ _ _ (by omega) (by omega))) (show cVal (.int (.ofNat 2)) _ _ _ = some (.int (.ofNat 2), _) from rfl)).trans (addN ..)
      have := F.len
      exact (cBin_eq (f := mulV) (cLoc_eq hi) a1).trans (mulN _ _ _ (by omega)))
  have hL : mapI (fun late x => MV.int (.ofNat (late * (x / (1 + d) + 2)))) 0 r = nL (mapI (fun late x => late * (x / (1 + d) + 2)) 0 r) := by
    unfold nL
    rw [mapI_map]
  rw [hL] at c1
  generalize hLe : mapI (fun late x => late * (x / (1 + d) + 2)) 0 r = L at c1
  have hcol : colT r (1 + d) = (1 + d) * L.sum := by unfold colT; rw [hLe]
  have e4 : (σ ++ MO.list vs :: t) ++ [MO.list (nL L)] = σ ++ .list vs :: (t ++ [MO.list (nL L)]) := by simp
  have hq : (σ ++ MO.list vs :: (t ++ [MO.list (nL L)]))[(σ ++ MO.list vs :: t).length]? = some (.list ((L.map Int.ofNat).map .int)) := by
    rw [← e4, List.getElem?_append_right (Nat.le_refl _), Nat.sub_self]
    unfold nL
    rw [List.map_map]
    rfl
  rw [e4] at c1
  have c2 := (cB1_eq (f := sumV) c1).trans (sumL_eq (getO_at hq))
  have z : sumI (L.map Int.ofNat) 0 = .ofNat L.sum := (sumI_nat L 0).trans (by rw [Nat.zero_add])
  rw [z] at c2
  have c3 := (cBin_eq (f := mulV) (cLoc_eq (i := 4) (v := .int (.ofNat (1 + d))) rfl) c2).trans (mulN _ _ _ (by omega))
  rw [← hcol] at c3
  have s1 := sNm_eq (i := 11) c3
  generalize hte : t ++ [MO.list (nL L)] = t1 at s1 c1 c2 c3 hq e4
  have hrt : Rows (σ ++ .list vs :: t1) vs l := hr.mono fun r xs h => by
    have := get_app (t := [MO.list (nL L)]) h
    rw [e4] at this
    exact this
  -- the row
  have d1 := (cMeth_eq (f := countLV) (q := isL) (cLoc_eq (k := k₁) (ρ := rL v1 (some (.int (.ofNat (1 + d)))) v5 v6 (some (.ref js)) v8 v9 (some (.ref σ.length)) (some (.int (.ofNat (colT r (1 + d))))) v12 v13 v14) (σ := σ ++ .list vs :: t1) (i := 7) (v := .ref js) rfl) (isL_at (get_app hs)) (cLoc_eq (i := 4) (v := .int (.ofNat (1 + d))) rfl)).trans (count_eq (get_app hs))
  have d2 := (cBin_eq (f := mulV) (cLoc_eq (i := 4) (v := .int (.ofNat (1 + d))) rfl) d1).trans (mulN _ _ _ (by omega))
  have d3 := (cBin_eq (f := subV) (cLoc_eq (i := 11) (v := .int (.ofNat (colT r (1 + d)))) rfl) d2).trans (subI_eq ..)
  have hsub : Int.ofNat (colT r (1 + d)) - Int.ofNat ((1 + d) * sp.count (1 + d)) = Int.ofNat (colT r (1 + d) - (1 + d) * sp.count (1 + d)) := by
    show ((colT r (1 + d) : Nat) : Int) - (((1 + d) * sp.count (1 + d) : Nat) : Int) = ((colT r (1 + d) - (1 + d) * sp.count (1 + d) : Nat) : Int)
    omega
  rw [hsub] at d3
  have e3 := tup3_eq (cLoc_eq (i := 4) (v := .int (.ofNat (1 + d))) rfl) (cLoc_eq (i := 11) (v := .int (.ofNat (colT r (1 + d)))) rfl) d3
  generalize hT : MO.tuple [.int (.ofNat (1 + d)), .int (.ofNat (colT r (1 + d))), .int (.ofNat (colT r (1 + d) - (1 + d) * sp.count (1 + d)))] = T at e3
  have e5 : (σ ++ MO.list vs :: t1) ++ [T] = σ ++ .list vs :: (t1 ++ [T]) := by simp
  rw [e5] at e3
  have s2 : sExp (cMeth isL appendV (cLoc 10) (cTup [(cLoc 4), (cLoc 11), (cBin subV (cLoc 11) (cBin mulV (cLoc 4) (cMeth isL countLV (cLoc 7) (cLoc 4))))])) k₁ (rL v1 (some (.int (.ofNat (1 + d)))) v5 v6 (some (.ref js)) v8 v9 (some (.ref σ.length)) (some (.int (.ofNat (colT r (1 + d))))) v12 v13 v14) (σ ++ .list vs :: t1) =
      some (.next, rL v1 (some (.int (.ofNat (1 + d)))) v5 v6 (some (.ref js)) v8 v9 (some (.ref σ.length)) (some (.int (.ofNat (colT r (1 + d))))) v12 v13 v14, σ ++ .list (vs ++ [.ref (σ ++ .list vs :: t1).length]) :: (t1 ++ [T])) := by
    unfold sExp
    rw [(cMeth_eq (f := appendV) (q := isL) (cLoc_eq (v := .ref σ.length) rfl) (isL_at (l := vs) (by rw [List.getElem?_append_right (Nat.le_refl _), Nat.sub_self]; rfl)) e3).trans (append_at (Kx.mut_of h1 rfl) hv), bnd_mk]
  refine ⟨vs ++ [.ref (σ ++ .list vs :: t1).length], t1 ++ [T], some (.int (.ofNat (colT r (1 + d)))), ?_, ?_⟩
  · unfold toldStep
    exact (sSeq_cons s1).trans (sSeq_one s2)
  · refine Rows.snoc (x := (1 + d, colT r (1 + d), colT r (1 + d) - (1 + d) * sp.count (1 + d))) ?_ (hrt.mono fun r xs h => ?_)
    · show (σ ++ MO.list (vs ++ [.ref (σ ++ .list vs :: t1).length]) :: (t1 ++ [T]))[(σ ++ .list vs :: t1).length]? = _
      rw [List.length_append, List.getElem?_append_right (Nat.le_add_right _ _), Nat.add_sub_cancel_left, hT]
      simp
    · refine tup_list (vs := vs) r xs ?_
      have := get_app (t := [T]) h
      rw [e5] at this
      exact this
theorem told_eq {r sp : List Nat} (F : Five r) {σ : Hp} {m js : Nat} (hm : m ≤ 100) (h1 : 1 ≤ σ.length) (h7 : σ[7]? = some (.list (nL r))) (h8 : σ[8]? = some (.range (.ofNat 1) (.ofNat (m + 1)) 1)) (hs : σ[js]? = some (.list (nL sp))) (hle : ∀ d, d < m → (1 + d) * sp.count (1 + d) ≤ colT r (1 + d))
    {v1 v4 v5 v6 v8 v9 v11 v12 v13 v14 : Option MV} :
    ∃ vs t v w, sFor (.one 4) (iE (cLoc 3)) toldStep k₁ (rL v1 v4 v5 v6 (some (.ref js)) v8 v9 (some (.ref σ.length)) v11 v12 v13 v14) (σ ++ [.list []]) =
      some (.next, rL v1 w v5 v6 (some (.ref js)) v8 v9 (some (.ref σ.length)) v v12 v13 v14, σ ++ .list vs :: t) ∧ Rows (σ ++ .list vs :: t) vs (toldN r sp m) := by
  have hit := range_items (k := k₁) (ρ := rL v1 v4 v5 v6 (some (.ref js)) v8 v9 (some (.ref σ.length)) v11 v12 v13 v14) (σ := σ ++ [.list []]) (x := cLoc 3) (cLoc_eq rfl) (get_app h8) (by decide) (by omega)
  obtain ⟨ρ', σ', hf, hI⟩ := forP_inv (body := toldStep k₁) (t := .one 4)
    (I := fun d ρ σ' => d ≤ m ∧ ∃ vs t v w, σ' = σ ++ .list vs :: t ∧ ρ = rL v1 w v5 v6 (some (.ref js)) v8 v9 (some (.ref σ.length)) v v12 v13 v14 ∧ Rows σ' vs (toldN r sp d))
    ((List.range (m + 1 - 1)).map fun i => .int (.ofNat (1 + i))) 0 (ρ := rL v1 v4 v5 v6 (some (.ref js)) v8 v9 (some (.ref σ.length)) v11 v12 v13 v14) (σ := σ ++ [.list []]) (by
      rintro d v ρ σ' hv ⟨hd, vs, t, v', w, rfl, rfl, hr⟩
      obtain ⟨hi, rfl⟩ := range_get hv
      rw [Nat.zero_add] at hd hr ⊢
      have hi : d < m := by simpa using hi
      have hvl : vs.length < 1000000 := by
        have := hr.length
        rw [toldN_len] at this
        omega
      obtain ⟨vs', t', v'', e1, e2⟩ := toldStep_eq F (by omega) h1 h7 hs (hle d hi) hr hvl (v1 := v1) (v5 := v5) (v6 := v6) (v8 := v8) (v9 := v9) (v11 := v') (v12 := v12) (v13 := v13) (v14 := v14)
      exact ⟨_, _, _, bindT_one, e1, hi, vs', t', v'', _, rfl, rfl, e2⟩) ⟨Nat.zero_le _, [], [], v11, v4, rfl, rfl, trivial⟩
  obtain ⟨_, vs, t, v, w, rfl, rfl, hr⟩ := hI
  have : 0 + ((List.range (m + 1 - 1)).map fun i => MV.int (.ofNat (1 + i))).length = m := by simp
  rw [this] at hr
  exact ⟨vs, t, v, w, sFor_plain hit hf, hr⟩
end Mine.L2
end

section
set_option maxRecDepth 100000
namespace Mine.L2
open PySem Mine Mine.Pre
theorem zeqN (a b : Nat) : W.Z.eqB (.ofNat a) (.ofNat b) = (a == b) := by
  rw [Bool.eq_iff_iff, W.Z.eqB_iff, beq_iff_eq]
  exact ⟨fun h => Int.ofNat.inj h, fun h => by rw [h]⟩
theorem goI {σ : Hp} {n : Nat} : ∀ (x y : List Nat), x.length = y.length → eqGo (eqV σ (n + 1)) (nL x) (nL y) = some (x == y)
  | [], [], _ => rfl
  | a :: x, b :: y, h => by
    show bd1 (some (W.Z.eqB (.ofNat a) (.ofNat b))) (fun c => bd1 (eqGo (eqV σ (n + 1)) (nL x) (nL y)) fun d => some (cnd c d false)) = _
    rw [goI x y (Nat.succ.inj h), bd1_mk, bd1_mk, zeqN]
    cases h : (a == b)
    · rw [cnd_f]
      have : (a :: x == b :: y) = false := by show ((a == b) && (x == y)) = false; rw [h]; rfl
      rw [this]
    · rw [cnd_t]
      have : (a :: x == b :: y) = (x == y) := by show ((a == b) && (x == y)) = _; rw [h]; rfl
      rw [this]
theorem eqTup {σ : Hp} {n i j : Nat} {x y : List MV} (hi : σ[i]? = some (.tuple x)) (hj : σ[j]? = some (.tuple y)) : eqV σ (n + 1) (.ref i) (.ref j) = eqGo (eqV σ n) x y := by
  show eqR σ (eqV σ n) i j = _
  unfold eqR
  rw [getO_at hi, getO_at hj]
theorem goRows {σ : Hp} {n : Nat} : ∀ {vs vs' : List MV} {l : List (Nat × Nat × Nat)}, Rows σ vs l → Rows σ vs' l → eqGo (eqV σ (n + 2)) vs vs' = some true
  | [], [], [], _, _ => rfl
  | .ref r :: vs, .ref r' :: vs', x :: l, w, w' => by
    show bd1 (eqV σ (n + 2) (.ref r) (.ref r')) (fun c => bd1 (eqGo (eqV σ (n + 2)) vs vs') fun d => some (cnd c d false)) = _
    rw [goRows w.2 w'.2, eqTup (n := n + 1) w.1 w'.1]
    have := goI (σ := σ) (n := n) [x.1, x.2.1, x.2.2] [x.1, x.2.1, x.2.2] rfl
    have e : eqGo (eqV σ (n + 1)) [.int (.ofNat x.1), .int (.ofNat x.2.1), .int (.ofNat x.2.2)] [.int (.ofNat x.1), .int (.ofNat x.2.1), .int (.ofNat x.2.2)] = some true := this.trans (by rw [beq_self_eq_true])
    rw [e]
    rfl
  | [], v :: _, [], _, w => by cases v <;> exact w.elim
  | v :: _, _, [], w, _ => by cases v <;> exact w.elim
  | [], _, _ :: _, w, _ => w.elim
  | _ :: _, [], _ :: _, _, w => w.elim
  | .none :: _, _, _ :: _, w, _ => w.elim
  | .bool _ :: _, _, _ :: _, w, _ => w.elim
  | .int _ :: _, _, _ :: _, w, _ => w.elim
  | .str _ :: _, _, _ :: _, w, _ => w.elim
  | .bytes _ :: _, _, _ :: _, w, _ => w.elim
  | .ref _ :: _, .none :: _, _ :: _, _, w => w.elim
  | .ref _ :: _, .bool _ :: _, _ :: _, _, w => w.elim
  | .ref _ :: _, .int _ :: _, _ :: _, _, w => w.elim
  | .ref _ :: _, .str _ :: _, _ :: _, _, w => w.elim
  | .ref _ :: _, .bytes _ :: _, _ :: _, _, w => w.elim
/-- two lists of the same rows are equal -/
theorem eqRows {σ : Hp} {i j : Nat} {vs vs' : List MV} {l : List (Nat × Nat × Nat)} (hi : σ[i]? = some (.list vs)) (hj : σ[j]? = some (.list vs')) (w : Rows σ vs l) (w' : Rows σ vs' l) : eqC σ (.ref i) (.ref j) = some true := by
  show eqR σ (eqV σ 4) i j = _
  unfold eqR
  rw [getO_at hi, getO_at hj]
  dsimp only
  rw [len_eq, len_eq, w.length, w'.length, Nat.beq_refl, cnd_t]
  exact goRows w w'
theorem neRows {σ : Hp} {i j : Nat} {vs vs' : List MV} {l : List (Nat × Nat × Nat)} (hi : σ[i]? = some (.list vs)) (hj : σ[j]? = some (.list vs')) (w : Rows σ vs l) (w' : Rows σ vs' l) : neC σ (.ref i) (.ref j) = some false := by
  have : neC σ (.ref i) (.ref j) = bd1 (eqC σ (.ref i) (.ref j)) fun c => some (cnd c false true) := rfl
  rw [this, eqRows hi hj w w']
  rfl
theorem neBytes (σ : Hp) (x : List Nat) : neC σ (.bytes x) (.bytes x) = some false := by
  show bd1 (some (eqL x x)) (fun c => some (cnd c false true)) = _
  rw [(eqL_iff x x).mpr rfl]
  rfl
theorem neBool (σ : Hp) (x : Bool) : neC σ (.bool x) (.bool x) = some false := by cases x <;> rfl
theorem intsNL : ∀ l : List Nat, intsOf (nL l) = some (l.map Int.ofNat)
  | [] => rfl
  | a :: l => by
    show bd1 (intsOf (nL l)) (fun l => some (Int.ofNat a :: l)) = _
    rw [intsNL l]
    rfl
theorem cCmp_eq {k : Kx} {ρ : Lo} {σ σ₁ σ₂ : Hp} {cmp : Hp → MV → MV → Option Bool} {x y : CE} {u v : MV} {c : Bool} (h : x k ρ σ = some (u, σ₁)) (h' : y k ρ σ₁ = some (v, σ₂)) (hc : cmp σ₂ u v = some c) : cCmp cmp x y k ρ σ = some (.bool c, σ₂) := by
  unfold cCmp
  rw [h, bnd_mk, h', bnd_mk, hc]
  exact frP_eq c fun c => some (MV.bool c, σ₂)
/-- the two indents' equality -/
theorem equal_at {σ : Hp} {i j : Nat} {cs cs' : List Nat} {b b' nt nt' : Nat} (W : IsW σ i cs b nt) (W' : IsW σ j cs' b' nt') : F_equal σ [.ref i, .ref j] = some (.bool (cs == cs' && b == b'), σ) := by
  obtain ⟨d, p, c, as, e1, e2, e3, e4, e5, e6⟩ := W
  obtain ⟨d', p', c', as', e1', e2', e3', e4', e5', e6'⟩ := W'
  have f0 : F_equal σ [.ref i, .ref j] = retF (B_equal ⟨σ.length, []⟩ [some (.ref i), some (.ref j)] σ) := by
    unfold F_equal fDef
    rw [frN_eq, len_eq]
    rfl
  rw [f0]
  unfold B_equal
  refine sRet_eq (cCmp_eq (cAttr_eq (cLoc_eq rfl) (attr_of e1 e2 e4)) (cAttr_eq (cLoc_eq rfl) (attr_of e1' e2' e4')) ?_)
  have tt : ∀ {i : Nat} {u : List MV}, σ[i]? = some (.tuple u) → tupT σ i = some u := fun h => by unfold tupT; rw [getO_at h]; rfl
  unfold eqTC
  rw [show refT (.ref p) = some p from rfl, show refT (.ref p') = some p' from rfl, bd1_mk, bd1_mk, tt e5, tt e5', bd1_mk, bd1_mk, show headT [.ref c, .int (.ofNat b)] = some c from rfl, show headT [.ref c', .int (.ofNat b')] = some c' from rfl, bd1_mk, bd1_mk, tt e6, tt e6', bd1_mk, bd1_mk]
  rw [show (cs.map fun x => MV.int (.ofNat x)) = nL cs from rfl, show (cs'.map fun x => MV.int (.ofNat x)) = nL cs' from rfl, intsNL, intsNL, bd1_mk, bd1_mk, len_eq, len_eq, List.length_map, List.length_map, cnd_eq]
  split
  · rename_i q
    have q := Nat.eq_of_beq_eq_true q
    show eqV σ 5 (.ref p) (.ref p') = _
    rw [eqTup (n := 4) e5 e5']
    show bd1 (eqV σ 4 (.ref c) (.ref c')) (fun x => bd1 (bd1 (some (W.Z.eqB (.ofNat b) (.ofNat b'))) fun y => bd1 (some true) fun d => some (cnd y d false)) fun d => some (cnd x d false)) = _
    rw [eqTup (n := 3) e6 e6', show (cs.map fun x => MV.int (.ofNat x)) = nL cs from rfl, show (cs'.map fun x => MV.int (.ofNat x)) = nL cs' from rfl, goI (n := 2) cs cs' q, zeqN]
    cases (cs == cs') <;> cases (b == b') <;> rfl
  · rename_i q
    have : (cs == cs') = false := by
      rw [Bool.eq_false_iff]
      intro h
      exact q (by rw [eq_of_beq h]; exact Nat.beq_refl _)
    rw [this]
    rfl
theorem any_nat (s : Nat) : ∀ l : List Nat, anyB (.int (.ofNat s)) (nL l) = l.contains s
  | [] => rfl
  | a :: l => by
    show cnd (W.Z.eqB (.ofNat a) (.ofNat s)) true (anyB (.int (.ofNat s)) (nL l)) = _
    rw [any_nat s l, List.contains_cons, zeqN, Bool.beq_comm]
    cases (s == a) <;> rfl
theorem in_nat {σ : Hp} {j s : Nat} {l : List Nat} (h : σ[j]? = some (.list (nL l))) : inC σ (.int (.ofNat s)) (.ref j) = some (l.contains s) := by
  unfold inC
  dsimp only
  rw [getO_at h]
  dsimp only
  unfold inV
  rw [same_nat, cnd_t, any_nat]
theorem nin_nat {σ : Hp} {j s : Nat} {l : List Nat} (h : σ[j]? = some (.list (nL l))) : ninC σ (.int (.ofNat s)) (.ref j) = some (!l.contains s) := by
  unfold ninC
  rw [in_nat h, bd1_mk]
  cases l.contains s <;> rfl
/-- spots == [] -/
theorem none_at {σ : Hp} {j q : Nat} {l : List Nat} (h : σ[j]? = some (.list (nL l))) (hq : σ[q]? = some (.list [])) : eqC σ (.ref j) (.ref q) = some l.isEmpty := by
  show eqR σ (eqV σ 4) j q = _
  unfold eqR
  rw [getO_at h, getO_at hq]
  dsimp only
  rw [len_eq, len_eq]
  cases l <;> rfl
theorem Rows.get {σ : Hp} : ∀ {vs : List MV} {l : List (Nat × Nat × Nat)} {d : Nat} {v : MV}, Rows σ vs l → vs[d]? = some v → ∃ r x, v = .ref r ∧ l[d]? = some x ∧ σ[r]? = some (.tuple [.int (.ofNat x.1), .int (.ofNat x.2.1), .int (.ofNat x.2.2)])
  | [], _, _, _, _, h => by simp at h
  | .ref r :: vs, x :: l, 0, v, w, h => by cases h; exact ⟨r, x, rfl, rfl, w.1⟩
  | .ref _ :: vs, _ :: l, d + 1, v, w, h => by
    obtain ⟨r, x, h1, h2, h3⟩ := Rows.get w.2 (by simpa using h)
    exact ⟨r, x, h1, by simpa using h2, h3⟩
  | .ref _ :: _, [], _, _, w, _ => w.elim
  | .none :: _, _, _, _, w, _ => w.elim
  | .bool _ :: _, _, _, _, w, _ => w.elim
  | .int _ :: _, _, _, _, w, _ => w.elim
  | .str _ :: _, _, _, _, w, _ => w.elim
  | .bytes _ :: _, _, _, _, w, _ => w.elim
/-- a comprehension that keeps some rows -/
theorem keep_rows {k : Kx} {ρ : Lo} {σ : Hp} {it : CE} {j js : Nat} {vs : List MV} {l : List (Nat × Nat × Nat)} {sp : List Nat} {cmp : Hp → MV → MV → Option Bool} {p : Nat → Bool} (hk : k.n₀ ≤ σ.length) (hfz : k.fz = []) (hx : it k ρ σ = some (.ref j, σ)) (hj : σ[j]? = some (.list vs)) (w : Rows σ vs l) (hl : l.length ≤ 1000)
    (h7 : getV ρ 7 = some (.ref js)) (hs : σ[js]? = some (.list (nL sp))) (hc : ∀ (σ' : Hp) (s : Nat), σ'[js]? = some (.list (nL sp)) → cmp σ' (.int (.ofNat s)) (.ref js) = some (p s)) :
    ∃ vs', cComp (.one 1) (iE it) (fun acc => (gIfs [(tCmp cmp (cSub (cLoc 1) (cVal (.int (.ofNat 0)))) (cLoc 2))] (gEmit acc (cLoc 1)))) [none, none, some 7] k ρ σ = some (.ref σ.length, σ ++ [.list vs']) ∧ Rows (σ ++ [.list vs']) vs' (l.filter fun x => p x.1) := by
  have hjl := (List.getElem?_eq_some_iff.mp hj).1
  have hm : (k.still (some j)).mut σ.length = true := Kx.mut_of (by exact hk) (by show memN _ (j :: k.fz) = false; rw [hfz]; exact memN_cons (by omega) rfl)
  obtain ⟨ρ', σ', hf, vs', hσ, hw, _⟩ := forP_inv (body := gIfs [(tCmp cmp (cSub (cLoc 1) (cVal (.int (.ofNat 0)))) (cLoc 2))] (gEmit σ.length (cLoc 1)) (k.still (some j))) (t := .one 1)
    (I := fun d ρ σ' => ∃ vs', σ' = σ ++ [MO.list vs'] ∧ Rows σ' vs' ((l.take d).filter fun x => p x.1) ∧ getV ρ 2 = some (.ref js) ∧ ρ.length = 3)
    vs 0 (ρ := capture ρ [none, none, some 7]) (σ := σ ++ [.list []]) (by
      rintro d v ρ σ' hv ⟨vs', rfl, hw, h2, h3⟩
      rw [Nat.zero_add] at hw ⊢
      obtain ⟨r, x, rfl, hd, hr⟩ := w.get hv
      have h1 : getV (setAt ρ 1 (some (.ref r))) 1 = some (.ref r) := getV_setAt (by omega)
      have h2' : getV (setAt ρ 1 (some (.ref r))) 2 = some (.ref js) := (getV_setAt_ne (by decide)).trans h2
      have ht := tCmp_eq (cmp := cmp) (cSub_eq (cLoc_eq (k := k.still (some j)) (σ := σ ++ [.list vs']) h1) (show cVal (.int (.ofNat 0)) _ _ _ = some (.int (.ofNat 0), _) from rfl) (tupItem (i := 0) (get_app hr) (by show 3 ≤ _; decide) rfl)) (cLoc_eq h2') (hc (σ ++ [.list vs']) x.1 (get_app hs))
      have hb : gIfs [(tCmp cmp (cSub (cLoc 1) (cVal (.int (.ofNat 0)))) (cLoc 2))] (gEmit σ.length (cLoc 1)) (k.still (some j)) (setAt ρ 1 (some (.ref r))) (σ ++ [.list vs']) = cnd (p x.1) (gEmit σ.length (cLoc 1) (k.still (some j)) (setAt ρ 1 (some (.ref r))) (σ ++ [.list vs'])) (some (.next, setAt ρ 1 (some (.ref r)), σ ++ [.list vs'])) := by
        show bnd (tCmp cmp (cSub (cLoc 1) (cVal (.int (.ofNat 0)))) (cLoc 2) (k.still (some j)) (setAt ρ 1 (some (.ref r))) (σ ++ [.list vs'])) (fun b σ'' => cnd b (gEmit σ.length (cLoc 1) (k.still (some j)) (setAt ρ 1 (some (.ref r))) σ'') (some (.next, setAt ρ 1 (some (.ref r)), σ''))) = _
        rw [ht, bnd_mk]
      have htk : l.take (d + 1) = l.take d ++ [x] := by rw [List.take_add_one, hd]; rfl
      rw [htk, List.filter_append]
      cases hp : p x.1 with
      | false =>
        rw [hp, cnd_f] at hb
        refine ⟨_, _, _, bindT_one, hb, vs', rfl, ?_, h2', by rw [setAt_length]; exact h3⟩
        have : [x].filter (fun x => p x.1) = [] := by simp [hp]
        rw [this, List.append_nil]
        exact hw
      | true =>
        rw [hp, cnd_t] at hb
        have hvl : vs'.length < 1000000 := by
          have h1 := hw.length
          have h2 := List.length_filter_le (fun x => p x.1) (l.take d)
          rw [List.length_take] at h2
          omega
        have he : gEmit σ.length (cLoc 1) (k.still (some j)) (setAt ρ 1 (some (.ref r))) (σ ++ [.list vs']) = some (.next, setAt ρ 1 (some (.ref r)), σ ++ [.list (vs' ++ [.ref r])]) := by
          unfold gEmit
          rw [cLoc_eq h1, bnd_mk, append_at (t := []) hm hvl, bnd_mk]
        refine ⟨_, _, _, bindT_one, hb.trans he, vs' ++ [.ref r], rfl, ?_, h2', by rw [setAt_length]; exact h3⟩
        have : [x].filter (fun x => p x.1) = [x] := by simp [hp]
        rw [this]
        exact Rows.snoc (get_app hr) (hw.mono fun r xs h => tup_list (t := []) r xs h)) ⟨[], rfl, trivial, h7, rfl⟩
  have hlen := w.length
  rw [Nat.zero_add, hlen, List.take_length] at hw
  subst hσ
  refine ⟨vs', ?_, hw⟩
  unfold cComp
  rw [iE_list hx (getO_at hj), bnd_mk, frN_eq, len_eq, frS_eq, app_eq, frS_eq]
  show nxtO (forP _ _ _ _ _) _ = _
  rw [hf]
  rfl
theorem or2_f {k : Kx} {ρ : Lo} {σ σ₁ σ₂ : Hp} {a b : CT} (h : a k ρ σ = some (false, σ₁)) (h' : b k ρ σ₁ = some (false, σ₂)) : tOr [a, b] k ρ σ = some (false, σ₂) := by
  show bnd (a k ρ σ) (fun b' σ => cnd b' (some (true, σ)) (bnd (b k ρ σ) fun b' σ => cnd b' (some (true, σ)) (some (false, σ)))) = _
  rw [h, bnd_mk, cnd_f, h', bnd_mk, cnd_f]
theorem sIf_no {k : Kx} {ρ : Lo} {σ σ₁ : Hp} {t : CT} {a : CS} (h : t k ρ σ = some (false, σ₁)) : sIf t a (sSeq []) k ρ σ = some (.next, ρ, σ₁) := by
  rw [sIf_eq h, cnd_f]
  rfl
end Mine.L2
end

section
set_option maxRecDepth 100000
namespace Mine.L2
open PySem Mine Mine.Pre
theorem bl_ws (n : Nat) : ∀ c ∈ bl n, c = 32 ∨ c = 9 := fun c h => .inl (List.mem_replicate.mp h).2
theorem app_ws {x y : List Nat} (h : ∀ c ∈ x, c = 32 ∨ c = 9) (h' : ∀ c ∈ y, c = 32 ∨ c = 9) : ∀ c ∈ x ++ y, c = 32 ∨ c = 9 := fun c hc => (List.mem_append.mp hc).elim (h c) (h' c)
theorem row1_ws (r : List Nat) (late : Nat) : ∀ s, ∀ c ∈ row1 r late s, c = 32 ∨ c = 9
  | 0 => fun _ h => nomatch h
  | s + 1 => app_ws (row1_ws r late s) (app_ws (bl_ws _) (by simp))
theorem row2_ws (r : List Nat) (late : Nat) : ∀ s, ∀ c ∈ row2 r late s, c = 32 ∨ c = 9
  | 0 => fun _ h => nomatch h
  | s + 1 => app_ws (row2_ws r late s) (app_ws (app_ws (app_ws (bl_ws _) (by simp)) (bl_ws _)) (by simp))
theorem all1_ws (r : List Nat) : ∀ d, ∀ c ∈ all1 r d, c = 32 ∨ c = 9
  | 0 => fun _ h => nomatch h
  | d + 1 => app_ws (all1_ws r d) (row1_ws r d d)
theorem all2_ws (r : List Nat) : ∀ d, ∀ c ∈ all2 r d, c = 32 ∨ c = 9
  | 0 => fun _ h => nomatch h
  | d + 1 => app_ws (all2_ws r d) (row2_ws r d d)
def sc1 (r : List Nat) : Sc := (all1 r 5).foldl stepS ⟨[], 0, 0, 0⟩
def sc2 (r : List Nat) : Sc := (all2 r 5).foldl stepS ⟨[], 0, 0, 0⟩
def colOf (s : Sc) : Nat → Nat := col s.cs s.b s.t
def geQ (x y : Nat) : Bool := Nat.ble y x
def neQ (x y : Nat) : Bool := !Nat.beq x y
def topN (r : List Nat) : Nat := max (max ((sc1 r).cs.length - 1) (sc1 r).b) (max ((sc2 r).cs.length - 1) (sc2 r).b) + 1
/-- what is to be checked of a rising -/
structure Chk (r : List Nat) (m : Nat) : Prop where
  page : (pageN r m 5).flatten = ((resL r m).map fun l => (sortN l).reverse).flatten
  cnt : ∀ d, d < m → (1 + d) * (spotsN r m 5).count (1 + d) ≤ colT r (1 + d)
  less : witL geQ (colOf (sc1 r)) (colOf (sc2 r)) (topN r) = toldN r (spotsN r m 5) m
  same : ((sc1 r).cs == (sc2 r).cs && (sc1 r).b == (sc2 r).b) = (spotsN r m 5).isEmpty
  more : witL geQ (colOf (sc2 r)) (colOf (sc1 r)) (topN r) = (toldN r (spotsN r m 5) m).filter fun x => !(spotsN r m 5).contains x.1
  diff : witL neQ (colOf (sc1 r)) (colOf (sc2 r)) (topN r) = (toldN r (spotsN r m 5) m).filter fun x => (spotsN r m 5).contains x.1
theorem sc1_b {r : List Nat} (F : Five r) : (sc1 r).b ≤ 500 ∧ (sc1 r).cs.length ≤ 500 := by
  have h := scan_b (all1 r 5) ⟨[], 0, 0, 0⟩
  have h' := all1_len F 5 (Nat.le_refl _)
  unfold sc1
  simp at h
  omega
theorem sc2_b {r : List Nat} (F : Five r) : (sc2 r).b ≤ 500 ∧ (sc2 r).cs.length ≤ 500 := by
  have h := scan_b (all2 r 5) ⟨[], 0, 0, 0⟩
  have h' := all2_len F 5 (Nat.le_refl _)
  unfold sc2
  simp at h
  omega
noncomputable section
def q5 : CS := sTp [6, 7] (cTup [(cMeth isBy joinV (cVal (.bytes [])) (cComp (.one 1) (iE (cLoc 5)) (fun acc => (gIfs [] (gEmit acc (cB1 bytesV (cLoc 1))))) [none, none, none])), (cLst [])])
def q7 : CS := sIf (tOr [(tCmp neC (cLoc 6) (cMeth isBy joinV (cVal (.bytes [])) (cComp (.one 1) (iE (cLoc 5)) (fun acc => (gIfs [] (gEmit acc (cB1 bytesV (cRev (cB1 sortedV (cLoc 1))))))) [none, none, none, none]))), (tNot (tVal (cB1 isbV (cLoc 6))))]) (sSeq [
    sRet (cVal (.bool false))]) (sSeq [])
def q11 : CS := sTp [13, 14] (cTup [(cNew F_init (cBin addV (cSub (cLoc 12) (cVal (.int (.ofNat 0)))) (cVal (.str [120])))), (cNew F_init (cBin addV (cSub (cLoc 12) (cVal (.int (.ofNat 1)))) (cVal (.str [120]))))])
def q12 : CS := sIf (tOr [(tCmp neC (cIm F_not_less_witness (cLoc 13) [(cLoc 14)]) (cLoc 10)), (tCmp neC (cIm F_equal (cLoc 13) [(cLoc 14)]) (cCmp eqC (cLoc 7) (cLst [])))]) (sSeq [
    sRet (cVal (.bool false))]) (sSeq [])
def filt (cmp : Hp → MV → MV → Option Bool) : CE := cComp (.one 1) (iE (cLoc 10)) (fun acc => (gIfs [(tCmp cmp (cSub (cLoc 1) (cVal (.int (.ofNat 0)))) (cLoc 2))] (gEmit acc (cLoc 1)))) [none, none, some 7]
def q13 : CS := sIf (tCmp neC (cIm F_not_less_witness (cLoc 14) [(cLoc 13)]) (filt ninC)) (sSeq [
    sRet (cVal (.bool false))]) (sSeq [])
def q14 : CE := cCmp eqC (cIm F_not_equal_witness (cLoc 13) [(cLoc 14)]) (filt inC)
def qs : List CS := [sNm 5 wordsE, q5, sFor (.one 8) (iR [(cVal (.int (.ofNat 5)))]) turnStep, q7, sNm 10 (cLst []), sFor (.one 4) (iE (cLoc 3)) toldStep, sNm 12 (cCall F_law_leads [(cLoc 2)]), q11, q12, q13, sRet q14]
end
theorem qs_new {k : Kx} {ρ : Lo} {σ : Hp} : cLst [] k ρ σ = some (.ref σ.length, σ ++ [.list []]) := by
  show new σ (.list []) = _
  rw [new_eq]
theorem get_new {σ : Hp} {o : MO} : (σ ++ [o])[σ.length]? = some o := by rw [List.getElem?_append_right (Nat.le_refl _), Nat.sub_self]; rfl
theorem get_newc {σ t : Hp} {o : MO} : (σ ++ o :: t)[σ.length]? = some o := by rw [List.getElem?_append_right (Nat.le_refl _), Nat.sub_self]; rfl
theorem cCall1 {k : Kx} {ρ : Lo} {σ σ₁ : Hp} {F : FS} {x : CE} {u : MV} (h : x k ρ σ = some (u, σ₁)) : cCall F [x] k ρ σ = F σ₁ [u] := by
  unfold cCall
  show bnd (bnd (x k ρ σ) fun v σ => bnd (some (([] : List MV), σ)) fun vs σ => some (v :: vs, σ)) (fun vs σ => F σ vs) = _
  rw [h]
  rfl
theorem new_init {k : Kx} {ρ : Lo} {σ : Hp} {i j : Nat} {xs : List MV} {w : List Nat} (h12 : getV ρ 12 = some (.ref j)) (hj : σ[j]? = some (.tuple xs)) (hx : xs.length ≤ 2) (hi : xs[i]? = some (.str w)) (hw : ∀ c ∈ w, c = 32 ∨ c = 9) (hl : w.length ≤ 900) :
    ∃ t, cNew F_init (cBin addV (cSub (cLoc 12) (cVal (.int (.ofNat i)))) (cVal (.str [120]))) k ρ σ = some (.ref σ.length, σ ++ t) ∧ IsW (σ ++ t) σ.length (w.foldl stepS ⟨[], 0, 0, 0⟩).cs (w.foldl stepS ⟨[], 0, 0, 0⟩).b (w.foldl stepS ⟨[], 0, 0, 0⟩).t := by
  obtain ⟨t, e1, e2⟩ := init_eq (σ := σ) (w := w) (rest := []) hw hl
  refine ⟨t, ?_, e2⟩
  unfold cNew
  rw [cBin_eq (f := addV) (cSub_eq (cLoc_eq h12) (show cVal (.int (.ofNat i)) _ _ _ = some (.int (.ofNat i), σ) from rfl) (tupItem hj (by omega) hi)) (show cVal (.str [120]) _ _ _ = some (.str [120], σ) from rfl), addS σ w [120] (by simp; omega), bnd_mk]
  exact e1
end Mine.L2
end

section
set_option maxRecDepth 100000
namespace Mine.L2
open PySem Mine Mine.Pre
theorem one_le_new {σ t : Hp} {o : MO} : 1 ≤ (σ ++ o :: t).length := by
  rw [List.length_append]
  exact Nat.le_trans (Nat.succ_le_succ (Nat.zero_le _)) (Nat.le_add_left ..)
theorem one_le_app {σ t : Hp} (h : 1 ≤ σ.length) : 1 ≤ (σ ++ t).length := by
  rw [List.length_append]
  exact Nat.le_trans h (Nat.le_add_right ..)
theorem st5 {r : List Nat} (F : Five r) {m : Nat} (hm : m ≤ 100) {σ : Hp} {j : Nat} {vs : List MV} (h1 : 1 ≤ σ.length) (hj : σ[j]? = some (.list vs)) (w : All2 (RefL σ) (resL r m) vs) {v1 v4 v6 v7 v8 v9 v10 v11 v12 v13 v14 : Option MV} :
    ∃ t u, q5 k₁ (rL v1 v4 (some (.ref j)) v6 v7 v8 v9 v10 v11 v12 v13 v14) σ = some (.next, rL v1 v4 (some (.ref j)) (some (.bytes (pageN r m 0).flatten)) (some (.ref (σ ++ t).length)) v8 v9 v10 v11 v12 v13 v14, (σ ++ t) ++ .list [] :: u) := by
  obtain ⟨t, e⟩ := page_eq (k := k₁) (ρ := rL v1 v4 (some (.ref j)) v6 v7 v8 v9 v10 v11 v12 v13 v14) F hm h1 rfl rfl hj w
  refine ⟨t, [.tuple [.bytes (pageN r m 0).flatten, .ref (σ ++ t).length]], ?_⟩
  unfold q5 sTp
  rw [tup2_eq e qs_new, bnd_mk]
  have h : ((σ ++ t ++ [MO.list []]) ++ [MO.tuple [.bytes (resL r m).flatten, .ref (σ ++ t).length]])[(σ ++ t ++ [MO.list []]).length]? = some (.tuple [.bytes (resL r m).flatten, .ref (σ ++ t).length]) := get_new
  unfold unpackV
  dsimp only
  rw [getO_at h, List.append_assoc (σ ++ t)]
  rfl
theorem st7 {r : List Nat} (F : Five r) {m : Nat} (hm : m ≤ 100) (hp : (pageN r m 5).flatten = ((resL r m).map fun l => (sortN l).reverse).flatten) {σ : Hp} {j : Nat} {vs : List MV} (h1 : 1 ≤ σ.length) (hj : σ[j]? = some (.list vs)) (w : All2 (RefL σ) (resL r m) vs) {v1 v4 v7 v8 v9 v10 v11 v12 v13 v14 : Option MV} :
    ∃ t, q7 k₁ (rL v1 v4 (some (.ref j)) (some (.bytes (pageN r m 5).flatten)) v7 v8 v9 v10 v11 v12 v13 v14) σ = some (.next, rL v1 v4 (some (.ref j)) (some (.bytes (pageN r m 5).flatten)) v7 v8 v9 v10 v11 v12 v13 v14, σ ++ t) := by
  obtain ⟨t, e⟩ := sortedPage_eq (k := k₁) (ρ := rL v1 v4 (some (.ref j)) (some (.bytes (pageN r m 5).flatten)) v7 v8 v9 v10 v11 v12 v13 v14) F hm h1 rfl rfl hj w
  refine ⟨t, ?_⟩
  unfold q7
  rw [← hp] at e
  refine sIf_no (or2_f (tCmp_eq (cLoc_eq (v := .bytes (pageN r m 5).flatten) rfl) e (neBytes _ _)) ?_)
  rfl
theorem st11 {r : List Nat} (F : Five r) {σ : Hp} {j : Nat} (hj : σ[j]? = some (.tuple [.str (all1 r 5), .str (all2 r 5)])) {v1 v4 v5 v6 v7 v8 v9 v10 v11 v13 v14 : Option MV} :
    ∃ t a b, q11 k₁ (rL v1 v4 v5 v6 v7 v8 v9 v10 v11 (some (.ref j)) v13 v14) σ = some (.next, rL v1 v4 v5 v6 v7 v8 v9 v10 v11 (some (.ref j)) (some (.ref a)) (some (.ref b)), σ ++ t) ∧
      IsW (σ ++ t) a (sc1 r).cs (sc1 r).b (sc1 r).t ∧ IsW (σ ++ t) b (sc2 r).cs (sc2 r).b (sc2 r).t := by
  have l1 := all1_len F 5 (Nat.le_refl _)
  have l2 := all2_len F 5 (Nat.le_refl _)
  obtain ⟨t, e1, w1⟩ := new_init (k := k₁) (ρ := rL v1 v4 v5 v6 v7 v8 v9 v10 v11 (some (.ref j)) v13 v14) (i := 0) rfl hj (Nat.le_refl _) rfl (all1_ws r 5) (Nat.le_trans l1 (by decide))
  obtain ⟨u, e2, w2⟩ := new_init (k := k₁) (ρ := rL v1 v4 v5 v6 v7 v8 v9 v10 v11 (some (.ref j)) v13 v14) (σ := σ ++ t) (i := 1) rfl (get_app hj) (Nat.le_refl _) rfl (all2_ws r 5) (Nat.le_trans l2 (by decide))
  refine ⟨t ++ (u ++ [.tuple [.ref σ.length, .ref (σ ++ t).length]]), σ.length, (σ ++ t).length, ?_, ?_, ?_⟩
  · unfold q11 sTp
    rw [tup2_eq e1 e2, bnd_mk]
    have h : ((σ ++ t ++ u) ++ [MO.tuple [.ref σ.length, .ref (σ ++ t).length]])[(σ ++ t ++ u).length]? = some (.tuple [.ref σ.length, .ref (σ ++ t).length]) := get_new
    unfold unpackV
    dsimp only
    rw [getO_at h, List.append_assoc (σ ++ t), List.append_assoc σ]
    rfl
  · have := (w1.app (t := u ++ [MO.tuple [.ref σ.length, .ref (σ ++ t).length]]))
    rw [List.append_assoc] at this
    exact this
  · have := (w2.app (t := [MO.tuple [.ref σ.length, .ref (σ ++ t).length]]))
    rw [List.append_assoc, List.append_assoc] at this
    exact this
theorem st12 {r : List Nat} (F : Five r) {m : Nat} (hm : m ≤ 100) (C : Chk r m) (hN : topN r ≤ 1000) {σ : Hp} {a b jt js : Nat} {vs : List MV} (hj : σ[jt]? = some (.list vs)) (w : Rows σ vs (toldN r (spotsN r m 5) m)) (hs : σ[js]? = some (.list (nL (spotsN r m 5))))
    (wa : IsW σ a (sc1 r).cs (sc1 r).b (sc1 r).t) (wb : IsW σ b (sc2 r).cs (sc2 r).b (sc2 r).t) {v1 v4 v5 v6 v8 v9 v11 v12 : Option MV} :
    ∃ t, q12 k₁ (rL v1 v4 v5 v6 (some (.ref js)) v8 v9 (some (.ref jt)) v11 v12 (some (.ref a)) (some (.ref b))) σ = some (.next, rL v1 v4 v5 v6 (some (.ref js)) v8 v9 (some (.ref jt)) v11 v12 (some (.ref a)) (some (.ref b)), σ ++ t) := by
  have b1 := sc1_b F
  have b2 := sc2_b F
  obtain ⟨vs', t, e1, w1⟩ := wit_eq ge_q wa wb (Nat.le_trans b1.2 (by decide)) (Nat.le_trans b2.2 (by decide)) rfl hN
  rw [← less_eq] at e1
  have w1 : Rows (σ ++ .list vs' :: t) vs' (toldN r (spotsN r m 5) m) := by rw [← C.less]; exact w1
  have i1 := cIm1 (k := k₁) (ρ := rL v1 v4 v5 v6 (some (.ref js)) v8 v9 (some (.ref jt)) v11 v12 (some (.ref a)) (some (.ref b))) (cLoc_eq (i := 13) (v := .ref a) rfl) wa.inst (cLoc_eq (i := 14) (v := .ref b) rfl) e1
  have t1 := tCmp_eq (cmp := neC) i1 (cLoc_eq (i := 10) (v := .ref jt) rfl) (neRows get_newc (get_app hj) w1 (w.mono fun _ _ h => get_app h))
  have wa' := wa.app (t := MO.list vs' :: t)
  have wb' := wb.app (t := MO.list vs' :: t)
  have i2 := cIm1 (k := k₁) (ρ := rL v1 v4 v5 v6 (some (.ref js)) v8 v9 (some (.ref jt)) v11 v12 (some (.ref a)) (some (.ref b))) (cLoc_eq (i := 13) (v := .ref a) rfl) wa'.inst (cLoc_eq (i := 14) (v := .ref b) rfl) (equal_at wa' wb')
  rw [C.same] at i2
  have t2 := tCmp_eq (cmp := neC) i2 (cCmp_eq (cmp := eqC) (cLoc_eq (i := 7) (v := .ref js) rfl) qs_new (none_at (get_app (get_app hs)) get_new)) (neBool _ _)
  refine ⟨MO.list vs' :: t ++ [.list []], ?_⟩
  unfold q12
  refine sIf_no ?_
  rw [← List.append_assoc]
  exact or2_f t1 t2
theorem filt_eq {cmp : Hp → MV → MV → Option Bool} {p : Nat → Bool} {sp : List Nat} {l : List (Nat × Nat × Nat)} {σ : Hp} {jt js : Nat} {vs : List MV} (h1 : 1 ≤ σ.length) (hl : l.length ≤ 1000) (hj : σ[jt]? = some (.list vs)) (w : Rows σ vs l) (hs : σ[js]? = some (.list (nL sp)))
    (hc : ∀ (σ' : Hp) (s : Nat), σ'[js]? = some (.list (nL sp)) → cmp σ' (.int (.ofNat s)) (.ref js) = some (p s)) {v1 v4 v5 v6 v8 v9 v11 v12 v13 v14 : Option MV} :
    ∃ vs', filt cmp k₁ (rL v1 v4 v5 v6 (some (.ref js)) v8 v9 (some (.ref jt)) v11 v12 v13 v14) σ = some (.ref σ.length, σ ++ [.list vs']) ∧ Rows (σ ++ [.list vs']) vs' (l.filter fun x => p x.1) :=
  keep_rows (k := k₁) h1 rfl (cLoc_eq rfl) hj w hl rfl hs hc
theorem st13 {r : List Nat} (F : Five r) {m : Nat} (hm : m ≤ 100) (C : Chk r m) (hN : topN r ≤ 1000) {σ : Hp} {a b jt js : Nat} {vs : List MV} (hj : σ[jt]? = some (.list vs)) (w : Rows σ vs (toldN r (spotsN r m 5) m)) (hs : σ[js]? = some (.list (nL (spotsN r m 5))))
    (wa : IsW σ a (sc1 r).cs (sc1 r).b (sc1 r).t) (wb : IsW σ b (sc2 r).cs (sc2 r).b (sc2 r).t) {v1 v4 v5 v6 v8 v9 v11 v12 : Option MV} :
    ∃ t, q13 k₁ (rL v1 v4 v5 v6 (some (.ref js)) v8 v9 (some (.ref jt)) v11 v12 (some (.ref a)) (some (.ref b))) σ = some (.next, rL v1 v4 v5 v6 (some (.ref js)) v8 v9 (some (.ref jt)) v11 v12 (some (.ref a)) (some (.ref b)), σ ++ t) := by
  have b1 := sc1_b F
  have b2 := sc2_b F
  obtain ⟨vs', t, e1, w1⟩ := wit_eq ge_q wb wa (Nat.le_trans b2.2 (by decide)) (Nat.le_trans b1.2 (by decide)) (N := topN r) (by unfold topN; rw [Nat.max_comm]) hN
  rw [← less_eq] at e1
  have w1 : Rows (σ ++ .list vs' :: t) vs' ((toldN r (spotsN r m 5) m).filter fun x => !(spotsN r m 5).contains x.1) := by rw [← C.more]; exact w1
  have i1 := cIm1 (k := k₁) (ρ := rL v1 v4 v5 v6 (some (.ref js)) v8 v9 (some (.ref jt)) v11 v12 (some (.ref a)) (some (.ref b))) (cLoc_eq (i := 14) (v := .ref b) rfl) wb.inst (cLoc_eq (i := 13) (v := .ref a) rfl) e1
  have hτ : 1 ≤ (σ ++ MO.list vs' :: t).length := one_le_new
  obtain ⟨us, e2, w2⟩ := filt_eq (p := fun s => !(spotsN r m 5).contains s) hτ (by rw [toldN_len]; exact Nat.le_trans hm (by decide)) (get_app hj) (w.mono fun _ _ h => get_app h) (get_app hs) (cmp := ninC) (fun _ _ h => nin_nat h) (v1 := v1) (v4 := v4) (v5 := v5) (v6 := v6) (v8 := v8) (v9 := v9) (v11 := v11) (v12 := v12) (v13 := some (.ref a)) (v14 := some (.ref b))
  refine ⟨MO.list vs' :: t ++ [.list us], ?_⟩
  unfold q13
  refine sIf_no ?_
  rw [← List.append_assoc]
  exact tCmp_eq i1 e2 (neRows (get_app get_newc) get_new (w1.mono fun _ _ h => get_app h) w2)
theorem st14 {r : List Nat} (F : Five r) {m : Nat} (hm : m ≤ 100) (C : Chk r m) (hN : topN r ≤ 1000) {σ : Hp} {a b jt js : Nat} {vs : List MV} (hj : σ[jt]? = some (.list vs)) (w : Rows σ vs (toldN r (spotsN r m 5) m)) (hs : σ[js]? = some (.list (nL (spotsN r m 5))))
    (wa : IsW σ a (sc1 r).cs (sc1 r).b (sc1 r).t) (wb : IsW σ b (sc2 r).cs (sc2 r).b (sc2 r).t) {v1 v4 v5 v6 v8 v9 v11 v12 : Option MV} :
    ∃ σ', q14 k₁ (rL v1 v4 v5 v6 (some (.ref js)) v8 v9 (some (.ref jt)) v11 v12 (some (.ref a)) (some (.ref b))) σ = some (.bool true, σ') := by
  have b1 := sc1_b F
  have b2 := sc2_b F
  obtain ⟨vs', t, e1, w1⟩ := wit_eq ne_q wa wb (Nat.le_trans b1.2 (by decide)) (Nat.le_trans b2.2 (by decide)) rfl hN
  rw [← equal_eq] at e1
  have w1 : Rows (σ ++ .list vs' :: t) vs' ((toldN r (spotsN r m 5) m).filter fun x => (spotsN r m 5).contains x.1) := by rw [← C.diff]; exact w1
  have i1 := cIm1 (k := k₁) (ρ := rL v1 v4 v5 v6 (some (.ref js)) v8 v9 (some (.ref jt)) v11 v12 (some (.ref a)) (some (.ref b))) (cLoc_eq (i := 13) (v := .ref a) rfl) wa.inst (cLoc_eq (i := 14) (v := .ref b) rfl) e1
  have hτ : 1 ≤ (σ ++ MO.list vs' :: t).length := one_le_new
  obtain ⟨us, e2, w2⟩ := filt_eq (p := fun s => (spotsN r m 5).contains s) hτ (by rw [toldN_len]; exact Nat.le_trans hm (by decide)) (get_app hj) (w.mono fun _ _ h => get_app h) (get_app hs) (cmp := inC) (fun _ _ h => in_nat h) (v1 := v1) (v4 := v4) (v5 := v5) (v6 := v6) (v8 := v8) (v9 := v9) (v11 := v11) (v12 := v12) (v13 := some (.ref a)) (v14 := some (.ref b))
  exact ⟨_, cCmp_eq i1 e2 (eqRows (get_app get_newc) get_new (w1.mono fun _ _ h => get_app h) w2)⟩
theorem topN_le {r : List Nat} (F : Five r) : topN r ≤ 1000 := by
  have b1 := sc1_b F
  have b2 := sc2_b F
  unfold topN
  exact Nat.le_trans (Nat.succ_le_succ (Nat.max_le.mpr ⟨Nat.max_le.mpr ⟨Nat.le_trans (Nat.sub_le ..) b1.2, b1.1⟩, Nat.max_le.mpr ⟨Nat.le_trans (Nat.sub_le ..) b2.2, b2.1⟩⟩)) (by decide)
theorem rest_eq {r : List Nat} (F : Five r) {m : Nat} (hm : m ≤ 100) (C : Chk r m) {σ : Hp} (h1 : 1 ≤ σ.length) (h7 : σ[7]? = some (.list (nL r))) (h8 : σ[8]? = some (.range (.ofNat 1) (.ofNat (m + 1)) 1)) {v1 v4 v5 v6 v7 v8 v9 v10 v11 v12 v13 v14 : Option MV} :
    ∃ σ', retF (sSeq qs k₁ (rL v1 v4 v5 v6 v7 v8 v9 v10 v11 v12 v13 v14) σ) = some (.bool true, σ') := by
  have hN : topN r ≤ 1000 := topN_le F
  obtain ⟨vs, t, e4, w4⟩ := words_eq (k := k₁) (ρ := rL v1 v4 v5 v6 v7 v8 v9 v10 v11 v12 v13 v14) h1 rfl rfl rfl h7 h8 (Nat.le_trans hm (by decide)) (by rw [F.len]; decide)
  have g4 : sNm 5 wordsE k₁ (rL v1 v4 v5 v6 v7 v8 v9 v10 v11 v12 v13 v14) σ = some (.next, rL v1 v4 (some (.ref σ.length)) v6 v7 v8 v9 v10 v11 v12 v13 v14, σ ++ .list vs :: t) := sNm_eq e4
  have j4 : (σ ++ MO.list vs :: t)[σ.length]? = some (.list vs) := get_newc
  replace h7 : (σ ++ MO.list vs :: t)[7]? = some (.list (nL r)) := get_app h7
  replace h8 : (σ ++ MO.list vs :: t)[8]? = some (.range (.ofNat 1) (.ofNat (m + 1)) 1) := get_app h8
  generalize hA : σ ++ MO.list vs :: t = A at g4 w4 j4 h7 h8
  have hA1 : 1 ≤ A.length := hA ▸ one_le_new
  obtain ⟨t5, u5, g5⟩ := st5 F hm hA1 j4 w4 (v1 := v1) (v4 := v4) (v6 := v6) (v7 := v7) (v8 := v8) (v9 := v9) (v10 := v10) (v11 := v11) (v12 := v12) (v13 := v13) (v14 := v14)
  replace h7 : (A ++ t5)[7]? = some (.list (nL r)) := get_app h7
  replace h8 : (A ++ t5)[8]? = some (.range (.ofNat 1) (.ofNat (m + 1)) 1) := get_app h8
  replace j4 : (A ++ t5)[σ.length]? = some (.list vs) := get_app j4
  replace w4 : All2 (RefL (A ++ t5)) (resL r m) vs := w4.mono fun x v h => by obtain ⟨j, h1, h2⟩ := h; exact ⟨j, h1, get_app h2⟩
  generalize hB : A ++ t5 = B at g5 w4 j4 h7 h8
  have hB1 : 1 ≤ B.length := hB ▸ one_le_app hA1
  obtain ⟨t6, x6, y6, g6⟩ := turns_eq F hm (σ := B) (t := u5) hB1 (v1 := v1) (v4 := v4) (v5 := some (.ref σ.length)) (v8 := v8) (v9 := v9) (v10 := v10) (v11 := v11) (v12 := v12) (v13 := v13) (v14 := v14)
  have js : (B ++ MO.list (nL (spotsN r m 5)) :: t6)[B.length]? = some (.list (nL (spotsN r m 5))) := get_newc
  replace h7 : (B ++ MO.list (nL (spotsN r m 5)) :: t6)[7]? = some (.list (nL r)) := get_app h7
  replace h8 : (B ++ MO.list (nL (spotsN r m 5)) :: t6)[8]? = some (.range (.ofNat 1) (.ofNat (m + 1)) 1) := get_app h8
  replace j4 : (B ++ MO.list (nL (spotsN r m 5)) :: t6)[σ.length]? = some (.list vs) := get_app j4
  replace w4 : All2 (RefL (B ++ MO.list (nL (spotsN r m 5)) :: t6)) (resL r m) vs := w4.mono fun x v h => by obtain ⟨j, h1, h2⟩ := h; exact ⟨j, h1, get_app h2⟩
  generalize hD : B ++ MO.list (nL (spotsN r m 5)) :: t6 = D at g6 w4 j4 h7 h8 js
  have hD1 : 1 ≤ D.length := hD ▸ one_le_new
  obtain ⟨t7, g7⟩ := st7 F hm C.page hD1 j4 w4 (v1 := v1) (v4 := v4) (v7 := some (.ref B.length)) (v8 := y6) (v9 := x6) (v10 := v10) (v11 := v11) (v12 := v12) (v13 := v13) (v14 := v14)
  replace h7 : (D ++ t7)[7]? = some (.list (nL r)) := get_app h7
  replace h8 : (D ++ t7)[8]? = some (.range (.ofNat 1) (.ofNat (m + 1)) 1) := get_app h8
  replace js : (D ++ t7)[B.length]? = some (.list (nL (spotsN r m 5))) := get_app js
  generalize hE : D ++ t7 = E at g7 h7 h8 js
  have hE1 : 1 ≤ E.length := hE ▸ one_le_app hD1
  have g8 : sNm 10 (cLst []) k₁ (rL v1 v4 (some (.ref σ.length)) (some (.bytes (pageN r m 5).flatten)) (some (.ref B.length)) y6 x6 v10 v11 v12 v13 v14) E = some (.next, rL v1 v4 (some (.ref σ.length)) (some (.bytes (pageN r m 5).flatten)) (some (.ref B.length)) y6 x6 (some (.ref E.length)) v11 v12 v13 v14, E ++ [.list []]) := sNm_eq qs_new
  obtain ⟨us, t9, x9, y9, g9, w9⟩ := told_eq F hm hE1 h7 h8 js C.cnt (v1 := v1) (v4 := v4) (v5 := some (.ref σ.length)) (v6 := some (.bytes (pageN r m 5).flatten)) (v8 := y6) (v9 := x6) (v11 := v11) (v12 := v12) (v13 := v13) (v14 := v14)
  have jt : (E ++ MO.list us :: t9)[E.length]? = some (.list us) := get_newc
  replace h7 : (E ++ MO.list us :: t9)[7]? = some (.list (nL r)) := get_app h7
  replace js : (E ++ MO.list us :: t9)[B.length]? = some (.list (nL (spotsN r m 5))) := get_app js
  generalize hG : E ++ MO.list us :: t9 = G at g9 w9 jt h7 js
  have e10 := (cCall1 (F := F_law_leads) (cLoc_eq (k := k₁) (ρ := rL v1 y9 (some (.ref σ.length)) (some (.bytes (pageN r m 5).flatten)) (some (.ref B.length)) y6 x6 (some (.ref E.length)) x9 v12 v13 v14) (i := 2) (v := .ref 7) rfl)).trans (leads_eq F h7)
  have g10 := sNm_eq (i := 12) e10
  have j12 : (G ++ [MO.tuple [.str [], .str []], .tuple [.str (all1 r 5), .str (all2 r 5)]])[G.length + 1]? = some (.tuple [.str (all1 r 5), .str (all2 r 5)]) := by
    rw [List.getElem?_append_right (Nat.le_add_right _ _), Nat.add_sub_cancel_left]; rfl
  obtain ⟨t11, a, b, g11, wa, wb⟩ := st11 F j12 (v1 := v1) (v4 := y9) (v5 := some (.ref σ.length)) (v6 := some (.bytes (pageN r m 5).flatten)) (v7 := some (.ref B.length)) (v8 := y6) (v9 := x6) (v10 := some (.ref E.length)) (v11 := x9) (v13 := v13) (v14 := v14)
  replace js : (G ++ [MO.tuple [.str [], .str []], .tuple [.str (all1 r 5), .str (all2 r 5)]] ++ t11)[B.length]? = some (.list (nL (spotsN r m 5))) := get_app (get_app js)
  replace jt : (G ++ [MO.tuple [.str [], .str []], .tuple [.str (all1 r 5), .str (all2 r 5)]] ++ t11)[E.length]? = some (.list us) := get_app (get_app jt)
  replace w9 : Rows (G ++ [MO.tuple [.str [], .str []], .tuple [.str (all1 r 5), .str (all2 r 5)]] ++ t11) us (toldN r (spotsN r m 5) m) := w9.mono fun _ _ h => get_app (get_app h)
  generalize hH : G ++ [MO.tuple [.str [], .str []], .tuple [.str (all1 r 5), .str (all2 r 5)]] ++ t11 = H at g11 wa wb js jt w9
  obtain ⟨t12, g12⟩ := st12 F hm C hN jt w9 js wa wb (v1 := v1) (v4 := y9) (v5 := some (.ref σ.length)) (v6 := some (.bytes (pageN r m 5).flatten)) (v8 := y6) (v9 := x6) (v11 := x9) (v12 := some (.ref (G.length + 1)))
  obtain ⟨t13, g13⟩ := st13 F hm C hN (get_app (t := t12) jt) (w9.mono fun _ _ h => get_app h) (get_app js) wa.app wb.app (v1 := v1) (v4 := y9) (v5 := some (.ref σ.length)) (v6 := some (.bytes (pageN r m 5).flatten)) (v8 := y6) (v9 := x6) (v11 := x9) (v12 := some (.ref (G.length + 1)))
  obtain ⟨σ', e14⟩ := st14 F hm C hN (get_app (t := t13) (get_app (t := t12) jt)) (w9.mono fun _ _ h => get_app (get_app h)) (get_app (get_app js)) wa.app.app wb.app.app (v1 := v1) (v4 := y9) (v5 := some (.ref σ.length)) (v6 := some (.bytes (pageN r m 5).flatten)) (v8 := y6) (v9 := x6) (v11 := x9) (v12 := some (.ref (G.length + 1)))
  refine ⟨σ', ?_⟩
  unfold qs
  rw [sSeq_cons g4, sSeq_cons g5, sSeq_cons g6, sSeq_cons g7, sSeq_cons g8, sSeq_cons g9, sSeq_cons g10]
  refine Eq.trans (congrArg retF (sSeq_cons g11)) ?_
  rw [sSeq_cons g12, sSeq_cons g13]
  exact sRet_eq e14
end Mine.L2
end

section
set_option maxRecDepth 100000
namespace Mine.L2
open PySem Mine Mine.Pre
theorem insN_pw (a : Nat) : ∀ {l : List Nat}, l.Pairwise (· ≤ ·) → (insN a l).Pairwise (· ≤ ·)
  | [], _ => List.pairwise_singleton _ _
  | b :: l, h => by
    have ⟨h1, h2⟩ := List.pairwise_cons.mp h
    unfold insN
    split
    · rename_i q
      have q := Nat.le_of_ble_eq_true q
      exact List.pairwise_cons.mpr ⟨fun x hx => (List.mem_cons.mp hx).elim (fun e => e ▸ q) fun hx => Nat.le_trans q (h1 x hx), h⟩
    · rename_i q
      have q : b ≤ a := Nat.le_of_not_le fun w => q (Nat.ble_eq_true_of_le w)
      exact List.pairwise_cons.mpr ⟨fun x hx => (insN_mem hx).elim (fun e => e ▸ q) fun hx => h1 x hx, insN_pw a h2⟩
theorem sortN_pw : ∀ l : List Nat, (sortN l).Pairwise (· ≤ ·)
  | [] => List.Pairwise.nil
  | a :: l => insN_pw a (sortN_pw l)
theorem five_sort {l : List Nat} (h : l.length = 5) (h9 : ∀ x ∈ l, x ≤ 9) : Five (sortN l) where
  len := (sortN_len l).trans h
  le i := by
    rw [List.getD_eq_getElem?_getD]
    cases e : (sortN l)[i]? with
    | none => exact Nat.zero_le _
    | some x => exact h9 x (sortN_mem (List.mem_of_getElem? e))
  up i j hij hj := by
    have hl := (sortN_len l).trans h
    have := List.pairwise_iff_getElem.mp (sortN_pw l) i j (by omega) (by omega) hij
    rw [List.getD_eq_getElem?_getD, List.getD_eq_getElem?_getD, List.getElem?_eq_getElem (by omega), List.getElem?_eq_getElem (by omega)]
    exact this
def cells (ns : List Int) : List Int := (ns.take 5).map (fun x => x.fmod 1000000) ++ ([7, 3, 8, 5, 2] : List Int).drop ((ns.take 5).map fun x => x.fmod 1000000).length
theorem cells_length (ns : List Int) : (cells ns).length = 5 := by
  unfold cells
  simp
  omega
/-- the cells' residues by 10 -/
def ten (ns : List Int) : List Nat := (cells ns).map fun x => (x.fmod 10).toNat
theorem ten_eq (ns : List Int) : (cells ns).map (fun x => x.fmod 10) = (ten ns).map Int.ofNat := by
  unfold ten
  rw [List.map_map]
  refine List.map_congr_left fun x _ => ?_
  have h0 : (0 : Int) ≤ x.fmod 10 := by rw [Int.fmod_eq_emod_of_nonneg _ (by decide)]; omega
  exact (Int.toNat_of_nonneg h0).symm
theorem ten_le (ns : List Int) : ∀ x ∈ ten ns, x ≤ 9 := by
  intro x hx
  obtain ⟨y, _, rfl⟩ := List.mem_map.mp hx
  show (y.fmod 10).toNat ≤ 9
  rw [Int.fmod_eq_emod_of_nonneg _ (by decide)]
  omega
theorem ten_len (ns : List Int) : (ten ns).length = 5 := by unfold ten; rw [List.length_map, cells_length]
def ris (ns : List Int) : List Nat := sortN (ten ns)
theorem ris_five (ns : List Int) : Five (ris ns) := five_sort (ten_len ns) (ten_le ns)
noncomputable section
def c1 : CS := sNm 1 (cComp (.one 1) (iE (cSlc (cLoc 0) none (some (cVal (.int (.ofNat 5)))))) (fun acc => (gIfs [] (gEmit acc (cBin modV (cB1 intV (cLoc 1)) (cBin powV (cVal (.int (.ofNat 10))) (cVal (.int (.ofNat 6)))))))) [none, none, none])
def c2 : CS := sNm 2 (cB1 sortedV (cComp (.one 1) (iE (cBin addV (cLoc 1) (cSlc (cLst [(cVal (.int (.ofNat 7))), (cVal (.int (.ofNat 3))), (cVal (.int (.ofNat 8))), (cVal (.int (.ofNat 5))), (cVal (.int (.ofNat 2)))]) (some (cB1 lenV (cLoc 1))) none))) (fun acc => (gIfs [] (gEmit acc (cBin modV (cLoc 1) (cVal (.int (.ofNat 10))))))) [none, none]))
def c3 : CS := sNm 3 (cB2 range2V (cVal (.int (.ofNat 1))) (cBin addV (cSub (cLoc 2) (cVal (.int (.ofNat 4)))) (cVal (.int (.ofNat 2)))))
end
abbrev r0 : Lo := [some (.ref 0), none, none, none, none, none, none, none, none, none, none, none, none, none, none, none, none, none, none, none, none, none, none, none, none]
abbrev r1 : Lo := [some (.ref 0), some (.ref 2), none, none, none, none, none, none, none, none, none, none, none, none, none, none, none, none, none, none, none, none, none, none, none]
abbrev r2 : Lo := [some (.ref 0), some (.ref 2), some (.ref 7), none, none, none, none, none, none, none, none, none, none, none, none, none, none, none, none, none, none, none, none, none, none]
section
variable (ns : List Int)
abbrev s0 : Hp := [.list (ns.map .int)]
abbrev dr : List Int := (ns.take 5).map fun x => x.fmod 1000000
abbrev s2 : Hp := [.list (ns.map .int), .list ((ns.take 5).map .int), .list ((dr ns).map .int)]
abbrev s5 : Hp := s2 ns ++ [.list [.int 7, .int 3, .int 8, .int 5, .int 2], .list ((([7, 3, 8, 5, 2] : List Int).drop (dr ns).length).map .int), .list ((cells ns).map .int)]
abbrev s7 : Hp := s5 ns ++ [.list ((ten ns).map fun x => .int (.ofNat x)), .list (nL (ris ns))]
theorem st1 : c1 k₁ r0 (s0 ns) = some (.next, r1, s2 ns) := by
  have h1 := slc_upto (k := k₁) (m := 5) (cLoc_eq (k := k₁) (ρ := r0) (σ := s0 ns) (i := 0) (v := .ref 0) rfl) (getO_at (o := .list (ns.map .int)) rfl)
  have h2 := cComp_eq (e := cBin modV (cB1 intV (cLoc 1)) (cBin powV (cVal (.int (.ofNat 10))) (cVal (.int (.ofNat 6))))) (u := .int) (g := fun x => .int (x.fmod 1000000)) (i := 1) (cap := [none, none, none]) (xs := ns.take 5)
    ((iE_list h1 (getO_at (σ := s0 ns ++ [.list ((ns.map .int).take 5)]) (j := 1) (o := .list ((ns.map .int).take 5)) rfl)).trans (by rw [List.map_take])) rfl
    (fun x ρ σ h => by
      rw [cBin_eq (cB1_eq (cLoc_eq h)) (show _ = some (.int 1000000, σ) from rfl)]
      exact mod_pos x 1000000 (by decide)) (by decide) (by simp; omega)
  unfold c1
  rw [sNm_eq h2]
  simp [List.map_take, Function.comp_def]
  rfl
theorem st2 : c2 k₁ r1 (s2 ns) = some (.next, r2, s7 ns) := by
  have h0 : cLoc 1 k₁ r1 (s2 ns) = some (.ref 2, s2 ns) := rfl
  have h1 : cLst [(cVal (.int (.ofNat 7))), (cVal (.int (.ofNat 3))), (cVal (.int (.ofNat 8))), (cVal (.int (.ofNat 5))), (cVal (.int (.ofNat 2)))] k₁ r1 (s2 ns) = some (.ref 3, s2 ns ++ [.list [.int 7, .int 3, .int 8, .int 5, .int 2]]) := rfl
  have h2 : cB1 lenV (cLoc 1) k₁ r1 (s2 ns ++ [.list [.int 7, .int 3, .int 8, .int 5, .int 2]]) = some (.int (.ofNat (dr ns).length), s2 ns ++ [.list [.int 7, .int 3, .int 8, .int 5, .int 2]]) := by
    rw [cB1_eq (cLoc_eq (v := .ref 2) rfl), lenL_eq (getO_at (o := .list ((dr ns).map .int)) rfl), List.length_map]
  have h3 := slc_from h1 h2 (getO_at rfl)
  have e1 : ([.int 7, .int 3, .int 8, .int 5, .int 2] : List MV).drop (dr ns).length = (([7, 3, 8, 5, 2] : List Int).drop (dr ns).length).map .int := by rw [List.map_drop]; rfl
  rw [e1] at h3
  have h4 := (cBin_eq h0 h3).trans (addL_eq (x := (dr ns).map .int) (getO_at rfl) (getO_at rfl) (by simp; omega))
  rw [← List.map_append] at h4
  have h5 : iE (cBin addV (cLoc 1) (cSlc (cLst [(cVal (.int (.ofNat 7))), (cVal (.int (.ofNat 3))), (cVal (.int (.ofNat 8))), (cVal (.int (.ofNat 5))), (cVal (.int (.ofNat 2)))]) (some (cB1 lenV (cLoc 1))) none)) k₁ r1 (s2 ns) = some (.plain (some 5) ((cells ns).map .int), s5 ns) :=
    iE_list (j := 5) (h4.trans rfl) (getO_at rfl)
  have h6 := cComp_eq (e := cBin modV (cLoc 1) (cVal (.int (.ofNat 10)))) (u := .int) (g := fun x => .int (x.fmod 10)) (i := 1) (cap := [none, none]) (xs := cells ns) h5 rfl
    (fun x ρ σ h => (cBin_eq (cLoc_eq h) (show cVal (.int (.ofNat 10)) _ _ _ = some (.int 10, σ) from rfl)).trans (mod_pos x 10 (by decide))) (by decide) (by rw [cells_length]; decide)
  have e2 : ((cells ns).map fun x => MV.int (x.fmod 10)) = nL (ten ns) := by
    have := congrArg (List.map MV.int) (ten_eq ns)
    rw [List.map_map, List.map_map] at this
    exact this
  rw [e2] at h6
  have h7 := (cB1_eq (f := sortedV) h6).trans (sorted_nL (l := ten ns) get_new (by rw [ten_len]; decide))
  unfold c2
  rw [sNm_eq h7]
  rfl
theorem st3 : c3 k₁ r2 (s7 ns) = some (.next, rL (some (.ref 2)) none none none none none none none none none none none, s7 ns ++ [.range (.ofNat 1) (.ofNat ((ris ns).getD 4 0 + 1 + 1)) 1]) := by
  have h := (ris_five ns).len
  have h4 := (ris_five ns).le 4
  have g : (nL (ris ns))[4]? = some (.int (.ofNat ((ris ns).getD 4 0))) := nL_get (by omega)
  have a1 := cSub_eq (k := k₁) (cLoc_eq (ρ := r2) (σ := s7 ns) (i := 2) (v := .ref 7) rfl) (show cVal (.int (.ofNat 4)) _ _ _ = some (.int (.ofNat 4), _) from rfl) (listItem (c := 7) (i := 4) (x := nL (ris ns)) rfl g)
  have a2 := (cBin_eq (f := addV) a1 (show cVal (.int (.ofNat 2)) _ _ _ = some (.int (.ofNat 2), _) from rfl)).trans (addN ..)
  have a3 := cB2_eq (f := range2V) (show cVal (.int (.ofNat 1)) k₁ r2 (s7 ns) = some (.int (.ofNat 1), s7 ns) from rfl) a2
  have a4 : range2V (s7 ns) (.int (.ofNat 1)) (.int (.ofNat ((ris ns).getD 4 0 + 2))) = some (.ref 8, s7 ns ++ [.range (.ofNat 1) (.ofNat ((ris ns).getD 4 0 + 1 + 1)) 1]) := by
    show cnd (small (.ofNat 1)) (cnd (small (.ofNat _)) (new _ _) none) none = _
    rw [small_nat (by decide), cnd_t, small_nat (by omega), cnd_t, new_eq]
    rfl
  unfold c3
  exact sNm_eq (a3.trans a4)
end
theorem law_e0 (ns : List Int) : F_law [.list (ns.map .int)] [.ref 0] = retF (B_law k₁ r0 (s0 ns)) := rfl
theorem law_e1 : B_law = sSeq (c1 :: c2 :: c3 :: qs) := rfl
theorem law_when (ns : List Int) (C : Chk (ris ns) ((ris ns).getD 4 0 + 1)) : ∃ σ', F_law [.list (ns.map .int)] [.ref 0] = some (.bool true, σ') := by
  have h4 := (ris_five ns).le 4
  rw [law_e0, law_e1, sSeq_cons (st1 ns), sSeq_cons (st2 ns), sSeq_cons (st3 ns)]
  exact rest_eq (ris_five ns) (by omega) C (by show 1 ≤ 9; decide) rfl rfl
end Mine.L2
end

section
set_option maxRecDepth 100000
namespace Mine.L2
open PySem Mine Mine.Pre
/-! ## the five rounds sort each word, and swap once for each inversion -/
def runW : Nat → List Nat → List Nat
  | 0, x => x
  | d + 1, x => (swapW (upT d) (runW d x)).reverse
def nSw (up : Bool) : List Nat → Nat
  | [a, b, c, d, _] => (sw up a b).toNat + (sw up c d).toNat
  | _ => 0
def cntW : Nat → List Nat → Nat
  | 0, _ => 0
  | d + 1, x => cntW d x + nSw (upT d) (runW d x)
/-- pairs that stand the wrong way -/
def invW (up : Bool) : List Nat → Nat
  | [a, b, c, d, e] => (sw up a b).toNat + (sw up a c).toNat + (sw up b c).toNat + (sw up a d).toNat + (sw up b d).toNat + (sw up c d).toNat + (sw up a e).toNat + (sw up b e).toNat + (sw up c e).toNat + (sw up d e).toNat
  | _ => 0
theorem sw_anti {up : Bool} {a b : Nat} (h : sw up a b = true) : sw up b a = false := by
  cases up
  · exact Bool.eq_false_iff.mpr fun q => Nat.lt_asymm (Nat.le_of_ble_eq_true h) (Nat.le_of_ble_eq_true q)
  · exact Bool.eq_false_iff.mpr fun q => Nat.lt_asymm (Nat.le_of_ble_eq_true h) (Nat.le_of_ble_eq_true q)
theorem sw_flip (up : Bool) (a b : Nat) : sw (!up) b a = sw up a b := by cases up <;> rfl
/-- two pairs put right: two inversions fewer -/
theorem inv_swap (up : Bool) (a b c d e : Nat) : invW (!up) (swapW up [a, b, c, d, e]).reverse + nSw up [a, b, c, d, e] = invW up [a, b, c, d, e] := by
  have key : ∀ a b c d : Nat, invW (!up) [e, d, c, b, a] = invW up [a, b, c, d, e] := fun a b c d => by
    unfold invW
    simp only [sw_flip]
    ac_rfl
  have es : swapW up [a, b, c, d, e] = (if sw up a b then [b, a] else [a, b]) ++ (if sw up c d then [d, c] else [c, d]) ++ [e] := rfl
  have en : nSw up [a, b, c, d, e] = (sw up a b).toNat + (sw up c d).toNat := rfl
  rw [es, en]
  have s1 : ∀ (a b c d : Nat), sw up a b = true → invW up [b, a, c, d, e] + 1 = invW up [a, b, c, d, e] := fun a b c d h => by
    unfold invW
    simp only [h, sw_anti h, Bool.toNat_true, Bool.toNat_false, Nat.zero_add, Nat.add_zero]
    ac_rfl
  have s2 : ∀ (a b c d : Nat), sw up c d = true → invW up [a, b, d, c, e] + 1 = invW up [a, b, c, d, e] := fun a b c d h => by
    unfold invW
    simp only [h, sw_anti h, Bool.toNat_true, Bool.toNat_false, Nat.zero_add, Nat.add_zero]
    ac_rfl
  cases h1 : sw up a b <;> cases h2 : sw up c d
  · exact key a b c d
  · exact (congrArg (· + 1) (key a b d c)).trans (s2 a b c d h2)
  · exact (congrArg (· + 1) (key b a c d)).trans (s1 a b c d h1)
  · exact (congrArg (· + 1 + 1) (key b a d c)).trans ((congrArg (· + 1) (s2 b a c d h2)).trans (s1 a b c d h1))
theorem runW_len {x : List Nat} (h : x.length = 5) : ∀ d, (runW d x).length = 5
  | 0 => h
  | d + 1 => (List.length_reverse ..).trans (swapW_len (runW_len h d))
theorem upT_succ (d : Nat) : upT (d + 1) = !upT d := by
  unfold upT
  rcases Nat.mod_two_eq_zero_or_one d with h | h
  · rw [h, show (d + 1) % 2 = 1 by omega]; rfl
  · rw [h, show (d + 1) % 2 = 0 by omega]; rfl
theorem inv_run {x : List Nat} (h : x.length = 5) : ∀ d, invW (upT d) (runW d x) + cntW d x = invW true x
  | 0 => rfl
  | d + 1 => by
    have ih := inv_run h d
    obtain ⟨a, b, c, e, f, he⟩ := five_of (runW_len h d)
    have hs := inv_swap (upT d) a b c e f
    show invW (upT (d + 1)) (swapW (upT d) (runW d x)).reverse + (cntW d x + nSw (upT d) (runW d x)) = _
    rw [upT_succ, ← ih, he, ← hs]
    omega
theorem runW_perm {x : List Nat} (h : x.length = 5) : ∀ d, (runW d x).Perm x
  | 0 => .refl _
  | d + 1 => ((List.reverse_perm _).trans (swapW_perm (runW_len h d))).trans (runW_perm h d)
/-- below t or not -/
def bit (t v : Nat) : Nat := (Nat.ble t v).toNat
theorem bit_le {t a b : Nat} (h : a ≤ b) : bit t a ≤ bit t b := by
  unfold bit
  cases q : Nat.ble t a
  · exact Nat.zero_le _
  · rw [show Nat.ble t b = true from Nat.ble_eq_true_of_le (Nat.le_trans (Nat.le_of_ble_eq_true q) h)]
    exact Nat.le_refl _
theorem swap_bit (t : Nat) (up : Bool) (a b : Nat) : (if sw up (bit t a) (bit t b) then [bit t b, bit t a] else [bit t a, bit t b]) = (if sw up a b then [b, a] else [a, b]).map (bit t) := by
  rcases Nat.lt_trichotomy a b with h | rfl | h
  · have h1 := bit_le (t := t) (Nat.le_of_lt h)
    cases up
    · rw [show sw false a b = true from Nat.ble_eq_true_of_le h]
      rcases Nat.lt_or_eq_of_le h1 with q | q
      · rw [show sw false (bit t a) (bit t b) = true from Nat.ble_eq_true_of_le q]; rfl
      · rw [q]; simp [q]
    · rw [show sw true a b = false from Bool.eq_false_iff.mpr fun q => Nat.lt_asymm h (Nat.le_of_ble_eq_true q), show sw true (bit t a) (bit t b) = false from Bool.eq_false_iff.mpr fun q => Nat.not_lt_of_le h1 (Nat.le_of_ble_eq_true q)]
      rfl
  · cases sw up a a <;> cases sw up (bit t a) (bit t a) <;> rfl
  · have h1 := bit_le (t := t) (Nat.le_of_lt h)
    cases up
    · rw [show sw false a b = false from Bool.eq_false_iff.mpr fun q => Nat.lt_asymm h (Nat.le_of_ble_eq_true q), show sw false (bit t a) (bit t b) = false from Bool.eq_false_iff.mpr fun q => Nat.not_lt_of_le h1 (Nat.le_of_ble_eq_true q)]
      rfl
    · rw [show sw true a b = true from Nat.ble_eq_true_of_le h]
      rcases Nat.lt_or_eq_of_le h1 with q | q
      · rw [show sw true (bit t a) (bit t b) = true from Nat.ble_eq_true_of_le q]; rfl
      · rw [q]; simp [q]
theorem swapW_bit (t : Nat) {up : Bool} {x : List Nat} (h : x.length = 5) : swapW up (x.map (bit t)) = (swapW up x).map (bit t) := by
  obtain ⟨a, b, c, d, e, rfl⟩ := five_of h
  have es : ∀ a b c d e, swapW up [a, b, c, d, e] = (if sw up a b then [b, a] else [a, b]) ++ (if sw up c d then [d, c] else [c, d]) ++ [e] := fun _ _ _ _ _ => rfl
  show swapW up [bit t a, bit t b, bit t c, bit t d, bit t e] = _
  rw [es, es, swap_bit, swap_bit, List.map_append, List.map_append]
  rfl
theorem runW_bit (t : Nat) {x : List Nat} (h : x.length = 5) : ∀ d, runW d (x.map (bit t)) = (runW d x).map (bit t)
  | 0 => rfl
  | d + 1 => by
    show (swapW (upT d) (runW d (x.map (bit t)))).reverse = (swapW (upT d) (runW d x)).reverse.map (bit t)
    rw [runW_bit t h d, swapW_bit t (runW_len h d), List.map_reverse]
/-- falling -/
def fal : List Nat → Bool
  | [a, b, c, d, e] => Nat.ble b a && Nat.ble c b && Nat.ble d c && Nat.ble e d
  | _ => false
theorem bits_fal : (List.all [0, 1] fun a => List.all [0, 1] fun b => List.all [0, 1] fun c => List.all [0, 1] fun d => List.all [0, 1] fun e => fal (runW 5 [a, b, c, d, e])) = true := by decide +kernel
theorem bit_mem (t v : Nat) : bit t v ∈ [0, 1] := by
  unfold bit
  cases Nat.ble t v <;> decide
theorem cons_fal {a b : Nat} {l : List Nat} (h : b ≤ a) (p : (b :: l).Pairwise (· ≥ ·)) : (a :: b :: l).Pairwise (· ≥ ·) :=
  .cons (fun _ hx => (List.mem_cons.mp hx).elim (fun e => e ▸ h) fun hx => Nat.le_trans ((List.pairwise_cons.mp p).1 _ hx) h) p
theorem run_fal {x : List Nat} (h : x.length = 5) : (runW 5 x).Pairwise (· ≥ ·) := by
  have hb : ∀ t, fal ((runW 5 x).map (bit t)) = true := fun t => by
    rw [← runW_bit t h]
    obtain ⟨a, b, c, d, e, rfl⟩ := five_of h
    have q := List.all_eq_true.mp bits_fal _ (bit_mem t a)
    have q := List.all_eq_true.mp q _ (bit_mem t b)
    have q := List.all_eq_true.mp q _ (bit_mem t c)
    have q := List.all_eq_true.mp q _ (bit_mem t d)
    exact List.all_eq_true.mp q _ (bit_mem t e)
  obtain ⟨a, b, c, d, e, he⟩ := five_of (runW_len h 5)
  rw [he] at hb ⊢
  have key : ∀ {u v : Nat}, (∀ t, bit t v ≤ bit t u) → v ≤ u := fun {u v} q => by
    have q := q v
    unfold bit at q
    rw [show Nat.ble v v = true from Nat.ble_eq_true_of_le (Nat.le_refl v)] at q
    cases z : Nat.ble v u
    · rw [z] at q; exact absurd q (by decide)
    · exact Nat.le_of_ble_eq_true z
  have all : ∀ t, ((bit t b ≤ bit t a ∧ bit t c ≤ bit t b) ∧ bit t d ≤ bit t c) ∧ bit t e ≤ bit t d := fun t => by
    have q := hb t
    have q : (Nat.ble (bit t b) (bit t a) && Nat.ble (bit t c) (bit t b) && Nat.ble (bit t d) (bit t c) && Nat.ble (bit t e) (bit t d)) = true := q
    simpa only [Bool.and_eq_true, Nat.ble_eq] using q
  exact cons_fal (key fun t => (all t).1.1.1) (cons_fal (key fun t => (all t).1.1.2) (cons_fal (key fun t => (all t).1.2) (cons_fal (key fun t => (all t).2) (List.pairwise_singleton ..))))
theorem insN_perm (a : Nat) : ∀ l, (insN a l).Perm (a :: l)
  | [] => .refl _
  | b :: l => by
    unfold insN
    split
    · exact .refl _
    · exact ((insN_perm a l).cons b).trans (.swap ..)
theorem sortN_perm : ∀ l : List Nat, (sortN l).Perm l
  | [] => .refl _
  | a :: l => (insN_perm a _).trans ((sortN_perm l).cons a)
theorem run_sorts {x : List Nat} (h : x.length = 5) : runW 5 x = (sortN x).reverse :=
  List.Perm.eq_of_pairwise (le := (· ≥ ·)) (fun _ _ _ _ p q => Nat.le_antisymm q p) (run_fal h) (List.pairwise_reverse.mpr (sortN_pw x)) ((runW_perm h 5).trans ((sortN_perm x).symm.trans (List.reverse_perm _).symm))
theorem cnt_inv {x : List Nat} (h : x.length = 5) : cntW 5 x = invW true x := by
  have h1 := inv_run h 5
  have h2 := run_fal h
  obtain ⟨a, b, c, d, e, he⟩ := five_of (runW_len h 5)
  rw [he] at h1 h2
  obtain ⟨pa, h2⟩ := List.pairwise_cons.mp h2
  obtain ⟨pb, h2⟩ := List.pairwise_cons.mp h2
  obtain ⟨pc, h2⟩ := List.pairwise_cons.mp h2
  have pd := (List.pairwise_cons.mp h2).1
  have z : ∀ {u v : Nat}, v ≤ u → sw (upT 5) u v = false := fun q => Bool.eq_false_iff.mpr fun w => Nat.not_lt_of_le q (Nat.le_of_ble_eq_true w)
  have h0 : invW (upT 5) [a, b, c, d, e] = 0 := by
    unfold invW
    dsimp only
    rw [z (pa b (.head _)), z (pa c (.tail _ (.head _))), z (pb c (.head _)), z (pa d (.tail _ (.tail _ (.head _)))), z (pb d (.tail _ (.head _))), z (pc d (.head _)), z (pa e (.tail _ (.tail _ (.tail _ (.head _))))), z (pb e (.tail _ (.tail _ (.head _)))), z (pc e (.tail _ (.head _))), z (pd e (.head _))]
    rfl
  rw [h0, Nat.zero_add] at h1
  exact h1
end Mine.L2
end

section
set_option maxRecDepth 100000
namespace Mine.L2
open PySem Mine Mine.Pre
/-! ## the two indents' columns -/
def valR (s : Nat) : Nat → List Nat → Nat
  | _, [] => 0
  | k, a :: r => k / s * a + valR s (k + 1) r
theorem val_bump (s : Nat) : ∀ (b : Nat) (cs : List Nat) (k : Nat), valR s k (bump b cs) = valR s k cs + (k + b) / s
  | 0, [], k => by simp [bump, valR]
  | 0, a :: r, k => by simp only [bump, valR, Nat.mul_add, Nat.mul_one, Nat.add_zero]; exact Nat.add_right_comm ..
  | n + 1, [], k => by
    show k / s * 0 + valR s (k + 1) (bump n []) = 0 + (k + (n + 1)) / s
    rw [val_bump s n [] (k + 1), Nat.mul_zero, show k + 1 + n = k + (n + 1) by omega, show valR s (k + 1) [] = 0 from rfl, Nat.zero_add]
  | n + 1, a :: r, k => by
    show k / s * a + valR s (k + 1) (bump n r) = k / s * a + valR s (k + 1) r + (k + (n + 1)) / s
    rw [val_bump s n r (k + 1), show k + 1 + n = k + (n + 1) by omega, Nat.add_assoc]
theorem sumTo_cons (f : Nat → Nat) : ∀ n, sumTo f (n + 1) = f 0 + sumTo (fun i => f (i + 1)) n
  | 0 => Nat.add_comm ..
  | n + 1 => by
    show sumTo f (n + 1) + f (n + 1) = f 0 + (sumTo (fun i => f (i + 1)) n + f (n + 1))
    rw [sumTo_cons f n, Nat.add_assoc]
theorem sumTo_skip (f : Nat → Nat) (s : Nat) (h : ∀ i, i < s → f i = 0) : ∀ n, sumTo f n = sumTo (fun i => f (s + i)) (n - s)
  | 0 => by rw [Nat.zero_sub]; rfl
  | n + 1 => by
    show sumTo f n + f n = _
    rw [sumTo_skip f s h n]
    by_cases q : n < s
    · rw [h n q, Nat.sub_eq_zero_of_le (Nat.le_of_lt q), Nat.sub_eq_zero_of_le q, Nat.add_zero]
    · have q := Nat.le_of_not_lt q
      rw [Nat.succ_sub q]
      show _ = sumTo _ (n - s) + f (s + (n - s))
      rw [Nat.add_sub_cancel' q]
theorem val_sum (s : Nat) : ∀ (cs : List Nat) (k : Nat), valR s k cs = sumTo (fun i => (k + i) / s * cs.getD i 0) cs.length
  | [], _ => rfl
  | a :: r, k => by
    show k / s * a + valR s (k + 1) r = sumTo _ (r.length + 1)
    rw [val_sum s r (k + 1), sumTo_cons]
    have e : (fun i => (k + 1 + i) / s * r.getD i 0) = fun i => (k + (i + 1)) / s * (a :: r).getD (i + 1) 0 := by
      funext i
      rw [show k + 1 + i = k + (i + 1) by omega, List.getD_cons_succ]
    rw [e]
    rfl
theorem col_val (cs : List Nat) (b nt : Nat) {s : Nat} (h : 1 ≤ s) : col cs b nt s = b + s * (valR s 0 cs + nt) := by
  unfold col
  rw [val_sum, sumTo_skip (fun i => (0 + i) / s * cs.getD i 0) s (fun i q => by rw [Nat.zero_add, Nat.div_eq_of_lt q, Nat.zero_mul])]
  simp only [Nat.zero_add]
/-- between two pieces -/
def stz (cs : List Nat) (n t : Nat) : Sc := ⟨cs, 0, n, t⟩
theorem scan_bl (cs : List Nat) : ∀ x b n t, (bl x).foldl stepS ⟨cs, b, n, t⟩ = ⟨cs, b + x, n + x, t⟩
  | 0, _, _, _ => rfl
  | x + 1, b, n, t => by
    show (bl x).foldl stepS ⟨cs, b + 1, n + 1, t⟩ = _
    rw [scan_bl cs x (b + 1) (n + 1) t, show b + 1 + x = b + (x + 1) by omega, show n + 1 + x = n + (x + 1) by omega]
theorem scan_1 (x : Nat) (cs : List Nat) (n t : Nat) : (bl x ++ [9, 9]).foldl stepS (stz cs n t) = stz (bump 0 (bump x cs)) (n + x + 2) (t + 2) := by
  rw [List.foldl_append, stz, scan_bl, Nat.zero_add]
  rfl
theorem scan_2 (x y : Nat) (cs : List Nat) (n t : Nat) : (bl x ++ [9] ++ bl (y - x) ++ [9]).foldl stepS (stz cs n t) = stz (bump (y - x) (bump x cs)) (n + x + 1 + (y - x) + 1) (t + 2) := by
  rw [List.foldl_append, List.foldl_append, List.foldl_append, stz, scan_bl cs x, Nat.zero_add]
  show (([9] : List Nat).foldl stepS ((bl (y - x)).foldl stepS ⟨bump x cs, 0, n + x + 1, t + 1⟩)) = _
  rw [scan_bl, Nat.zero_add]
  rfl
def b1 (y : Nat) (cs : List Nat) : List Nat := bump 0 (bump y cs)
def b2 (x y : Nat) (cs : List Nat) : List Nat := bump (y - x) (bump x cs)
def cs1 (b c d e : Nat) : List Nat := b1 e (b1 e (b1 e (b1 e (b1 d (b1 d (b1 d (b1 c (b1 c (b1 b [])))))))))
def cs2 (a b c d e : Nat) : List Nat := b2 d e (b2 c e (b2 b e (b2 a e (b2 c d (b2 b d (b2 a d (b2 b c (b2 a c (b2 a b [])))))))))
theorem sc1_eq (a b c d e : Nat) : ∃ n, sc1 [a, b, c, d, e] = ⟨cs1 b c d e, 0, n, 20⟩ := by
  have h : all1 [a, b, c, d, e] 5 = [] ++ [] ++ ([] ++ (bl b ++ [9, 9])) ++ ([] ++ (bl c ++ [9, 9]) ++ (bl c ++ [9, 9])) ++ ([] ++ (bl d ++ [9, 9]) ++ (bl d ++ [9, 9]) ++ (bl d ++ [9, 9])) ++ ([] ++ (bl e ++ [9, 9]) ++ (bl e ++ [9, 9]) ++ (bl e ++ [9, 9]) ++ (bl e ++ [9, 9])) := rfl
  unfold sc1
  rw [h]
  generalize hG : (fun x => bl x ++ [9, 9]) = G
  have g : ∀ x, bl x ++ [9, 9] = G x := fun x => by rw [← hG]
  have s : ∀ x cs n t, (G x).foldl stepS (stz cs n t) = stz (bump 0 (bump x cs)) (n + x + 2) (t + 2) := fun x cs n t => by rw [← hG]; exact scan_1 x cs n t
  rw [g, g, g, g]
  simp only [List.foldl_append, List.foldl_nil, List.nil_append]
  exact ⟨_, (by rw [show (⟨[], 0, 0, 0⟩ : Sc) = stz [] 0 0 from rfl, s, s, s, s, s, s, s, s, s, s]; rfl)⟩
theorem sc2_eq (a b c d e : Nat) : ∃ n, sc2 [a, b, c, d, e] = ⟨cs2 a b c d e, 0, n, 20⟩ := by
  generalize hG : (fun x y => bl x ++ [9] ++ bl (y - x) ++ [9]) = G
  have h : all2 [a, b, c, d, e] 5 = [] ++ [] ++ ([] ++ G a b) ++ ([] ++ G a c ++ G b c) ++ ([] ++ G a d ++ G b d ++ G c d) ++ ([] ++ G a e ++ G b e ++ G c e ++ G d e) := by rw [← hG]; rfl
  have s : ∀ x y cs n t, (G x y).foldl stepS (stz cs n t) = stz (bump (y - x) (bump x cs)) (n + x + 1 + (y - x) + 1) (t + 2) := fun x y cs n t => by rw [← hG]; exact scan_2 x y cs n t
  unfold sc2
  rw [h]
  simp only [List.foldl_append, List.foldl_nil, List.nil_append]
  exact ⟨_, (by rw [show (⟨[], 0, 0, 0⟩ : Sc) = stz [] 0 0 from rfl, s, s, s, s, s, s, s, s, s, s]; rfl)⟩
theorem val_b1 {s y : Nat} (cs : List Nat) : valR s 0 (b1 y cs) = valR s 0 cs + y / s := by
  unfold b1
  rw [val_bump, val_bump, Nat.zero_add, Nat.zero_add, Nat.zero_div]
  rfl
theorem val_b2 {s x y : Nat} (cs : List Nat) : valR s 0 (b2 x y cs) = valR s 0 cs + x / s + (y - x) / s := by
  unfold b2
  rw [val_bump, val_bump, Nat.zero_add, Nat.zero_add]
theorem div_tab : (List.all (List.range 10) fun y => List.all (List.range (y + 1)) fun x => List.all (List.range 10) fun s => y / (s + 1) == x / (s + 1) + (y - x) / (s + 1) + (sw true (x % (s + 1)) (y % (s + 1))).toNat) = true := by decide +kernel
theorem div_at {x y s : Nat} (h : x ≤ y) (h9 : y ≤ 9) (h1 : 1 ≤ s) (h10 : s ≤ 10) : y / s = x / s + (y - x) / s + (sw true (x % s) (y % s)).toNat := by
  obtain ⟨u, rfl⟩ : ∃ u, s = u + 1 := ⟨s - 1, by omega⟩
  have q := List.all_eq_true.mp div_tab y (List.mem_range.mpr (Nat.lt_succ_of_le h9))
  have q := List.all_eq_true.mp q x (List.mem_range.mpr (Nat.lt_succ_of_le h))
  exact eq_of_beq (List.all_eq_true.mp q u (List.mem_range.mpr (Nat.lt_of_succ_le h10)))
theorem val_12 {s x y k : Nat} {p q : List Nat} (h : x ≤ y) (h9 : y ≤ 9) (h1 : 1 ≤ s) (h10 : s ≤ 10) (e : valR s 0 p = valR s 0 q + k) : valR s 0 (b1 y p) = valR s 0 (b2 x y q) + (k + (sw true (x % s) (y % s)).toNat) := by
  rw [val_b1, val_b2, e, div_at h h9 h1 h10]
  omega
theorem val_all {a b c d e s : Nat} (h1 : a ≤ b) (h2 : b ≤ c) (h3 : c ≤ d) (h4 : d ≤ e) (h9 : e ≤ 9) (hs : 1 ≤ s) (h10 : s ≤ 10) :
    valR s 0 (cs1 b c d e) = valR s 0 (cs2 a b c d e) + invW true [a % s, b % s, c % s, d % s, e % s] := by
  have d9 := Nat.le_trans h4 h9
  have c9 := Nat.le_trans h3 d9
  have b9 := Nat.le_trans h2 c9
  have hac := Nat.le_trans h1 h2
  have hbd := Nat.le_trans h2 h3
  have hce := Nat.le_trans h3 h4
  have hd := Nat.le_trans hac h3
  have z : valR s 0 [] = valR s 0 [] + 0 := rfl
  have r := val_12 h4 h9 hs h10 <| val_12 hce h9 hs h10 <| val_12 (Nat.le_trans hbd h4) h9 hs h10 <| val_12 (Nat.le_trans hd h4) h9 hs h10 <| val_12 h3 d9 hs h10 <| val_12 hbd d9 hs h10 <| val_12 hd d9 hs h10 <|
    val_12 h2 c9 hs h10 <| val_12 hac c9 hs h10 <| val_12 h1 b9 hs h10 z
  rw [Nat.zero_add] at r
  exact r
theorem colT_eq (a b c d e s : Nat) : colT [a, b, c, d, e] s = s * (valR s 0 (cs1 b c d e) + 20) := by
  have h : colT [a, b, c, d, e] s = s * (0 * (a / s + 2) + (1 * (b / s + 2) + (2 * (c / s + 2) + (3 * (d / s + 2) + (4 * (e / s + 2) + 0))))) := rfl
  rw [h]
  unfold cs1
  simp only [val_b1]
  rw [show valR s 0 [] = 0 from rfl]
  generalize b / s = b'
  generalize c / s = c'
  generalize d / s = d'
  generalize e / s = e'
  have m2 : ∀ x, 2 * (x + 2) = x + x + 4 := fun x => by omega
  have m3 : ∀ x, 3 * (x + 2) = x + x + x + 6 := fun x => by omega
  have m4 : ∀ x, 4 * (x + 2) = x + x + x + x + 8 := fun x => by omega
  have m : ∀ x, x + 20 = x + (2 + 4 + 6 + 8) := fun _ => rfl
  rw [Nat.zero_mul, Nat.one_mul, m2, m3, m4, m, Nat.add_zero, Nat.zero_add, Nat.zero_add]
  congr 1
  ac_rfl
theorem len_b1 {y N : Nat} {cs : List Nat} (h : cs.length ≤ N + 1) (hy : y ≤ N) : (b1 y cs).length ≤ N + 1 ∧ y + 1 ≤ (b1 y cs).length := by
  unfold b1
  rw [bump_length, bump_length]
  exact ⟨Nat.max_le.mpr ⟨Nat.max_le.mpr ⟨h, Nat.succ_le_succ hy⟩, Nat.succ_le_succ (Nat.zero_le _)⟩, Nat.le_trans (Nat.le_max_right ..) (Nat.le_max_left ..)⟩
theorem len_b2 {x y N : Nat} {cs : List Nat} (h : cs.length ≤ N + 1) (hx : x ≤ N) (hy : y ≤ N) : (b2 x y cs).length ≤ N + 1 := by
  unfold b2
  rw [bump_length, bump_length]
  exact Nat.max_le.mpr ⟨Nat.max_le.mpr ⟨h, Nat.succ_le_succ hx⟩, Nat.succ_le_succ (Nat.le_trans (Nat.sub_le ..) hy)⟩
theorem bump_comm : ∀ (x y : Nat) (cs : List Nat), bump x (bump y cs) = bump y (bump x cs)
  | 0, 0, _ => rfl
  | 0, _ + 1, [] => rfl
  | 0, _ + 1, _ :: _ => rfl
  | _ + 1, 0, [] => rfl
  | _ + 1, 0, _ :: _ => rfl
  | x + 1, y + 1, [] => congrArg (0 :: ·) (bump_comm x y [])
  | x + 1, y + 1, a :: r => congrArg (a :: ·) (bump_comm x y r)
theorem b_same {x y : Nat} {cs cs' : List Nat} (h : x = 0 ∨ x = y) (e : cs = cs') : b1 y cs = b2 x y cs' := by
  subst e
  unfold b1 b2
  rcases h with rfl | rfl
  · rw [Nat.sub_zero]; exact bump_comm ..
  · rw [Nat.sub_self]
end Mine.L2
end

section
set_option maxRecDepth 100000
namespace Mine.L2
open PySem Mine Mine.Pre
/-! ## how often a size is among the spots -/
theorem cnt_one (i n : Nat) (q : Bool) (v : Nat) (hv : v / 5 + 1 = n + 1) : ((if q then [v] else []).map fun x => x / 5 + 1).count (1 + i) = if i = n then q.toNat else 0 := by
  cases q
  · show 0 = _
    split <;> rfl
  · show [v / 5 + 1].count (1 + i) = _
    rw [hv, List.count_singleton]
    by_cases h : i = n
    · rw [if_pos h, h, Nat.add_comm, beq_self_eq_true]; rfl
    · rw [if_neg h, if_neg (by simp; omega)]
theorem cnt_pos (up : Bool) (i n : Nat) (w : List Nat) : ((posW up n w).map fun x => x / 5 + 1).count (1 + i) = if i = n then nSw up w else 0 := by
  have z : 0 = if i = n then 0 else 0 := by split <;> rfl
  rcases w with _ | ⟨a, _ | ⟨b, _ | ⟨c, _ | ⟨d, _ | ⟨e, _ | ⟨f, w⟩⟩⟩⟩⟩⟩
  all_goals first | exact z | skip
  show (((if sw up a b then [5 * n] else []) ++ (if sw up c d then [5 * n + 2] else [])).map _).count _ = if i = n then (sw up a b).toNat + (sw up c d).toNat else 0
  rw [List.map_append, List.count_append, cnt_one i n _ _ (by omega), cnt_one i n _ _ (by omega)]
  split <;> rfl
theorem cnt_wrong (up : Bool) (ws : List (List Nat)) (i : Nat) : ∀ n, ((wrongN up ws n).map fun x => x / 5 + 1).count (1 + i) = if i < n then nSw up (ws.getD i []) else 0
  | 0 => rfl
  | n + 1 => by
    show ((wrongN up ws n ++ posW up n (ws.getD n [])).map _).count _ = _
    rw [List.map_append, List.count_append, cnt_wrong up ws i n, cnt_pos]
    rcases Nat.lt_trichotomy i n with h | rfl | h
    · rw [if_pos h, if_neg (Nat.ne_of_lt h), if_pos (Nat.lt_succ_of_lt h)]; rfl
    · rw [if_neg (Nat.lt_irrefl i), if_pos rfl, if_pos (Nat.lt_succ_self i), Nat.zero_add]
    · rw [if_neg (Nat.lt_asymm h), if_neg (Nat.ne_of_gt h), if_neg (by omega)]
theorem page_run (r : List Nat) (m : Nat) : ∀ d, pageN r m d = (resL r m).map (runW d)
  | 0 => (List.map_id' _).symm
  | d + 1 => by
    show (pageN r m d).map _ = _
    rw [page_run r m d, List.map_map]
    rfl
theorem cnt_spots (r : List Nat) {m i : Nat} (h : i < m) : ∀ d, (spotsN r m d).count (1 + i) = cntW d (r.map (· % (1 + i)))
  | 0 => rfl
  | d + 1 => by
    show (spotsN r m d ++ (wrongN (upT d) (pageN r m d) m).map _).count _ = _
    rw [List.count_append, cnt_spots r h d, cnt_wrong, if_pos h, page_run]
    have e : ((resL r m).map (runW d)).getD i [] = runW d (r.map (· % (1 + i))) := by
      unfold resL
      rw [List.getD_eq_getElem?_getD, List.map_map, List.getElem?_map, List.getElem?_range h]
      rfl
    rw [e]
    rfl
theorem wrong_mem {up : Bool} {ws : List (List Nat)} {x : Nat} : ∀ {n}, x ∈ (wrongN up ws n).map (fun x => x / 5 + 1) → ∃ i, i < n ∧ x = 1 + i
  | 0, h => nomatch h
  | n + 1, h => by
    have h : x ∈ (wrongN up ws n ++ posW up n (ws.getD n [])).map (fun x => x / 5 + 1) := h
    rw [List.map_append] at h
    rcases List.mem_append.mp h with h | h
    · obtain ⟨i, hi, e⟩ := wrong_mem h
      exact ⟨i, Nat.lt_succ_of_lt hi, e⟩
    · have hc := List.count_pos_iff.mpr h
      obtain ⟨y, _, hy⟩ := List.mem_map.mp h
      have e : x = 1 + (x - 1) := by omega
      rw [e, cnt_pos] at hc
      split at hc
      · rename_i q
        exact ⟨x - 1, by omega, e⟩
      · exact absurd hc (Nat.lt_irrefl 0)
theorem spots_mem {r : List Nat} {m x : Nat} : ∀ {d}, x ∈ spotsN r m d → ∃ i, i < m ∧ x = 1 + i
  | 0, h => nomatch h
  | _ + 1, h => (List.mem_append.mp h).elim spots_mem wrong_mem
/-! ## the witnesses and the told rows -/
theorem wit_told {r sp : List Nat} {q : Nat → Nat → Bool} {u v : Nat → Nat} (p : Nat → Bool) : ∀ n, (∀ d, d < n → q (u (d + 1)) (v (d + 1)) = p (1 + d)) →
    (∀ d, d < n → p (1 + d) = true → u (d + 1) = colT r (1 + d) ∧ v (d + 1) = colT r (1 + d) - (1 + d) * sp.count (1 + d)) → witL q u v n = (toldN r sp n).filter fun x => p x.1
  | 0, _, _ => rfl
  | n + 1, h, h' => by
    have ih := wit_told (r := r) (sp := sp) p n (fun d hd => h d (Nat.lt_succ_of_lt hd)) (fun d hd => h' d (Nat.lt_succ_of_lt hd))
    show witL q u v n ++ (if q (u (n + 1)) (v (n + 1)) then [(n + 1, u (n + 1), v (n + 1))] else []) = (toldN r sp n ++ [(1 + n, colT r (1 + n), colT r (1 + n) - (1 + n) * sp.count (1 + n))]).filter _
    rw [List.filter_append, ih, h n (Nat.lt_succ_self n), List.filter_cons]
    cases z : p (1 + n)
    · rfl
    · obtain ⟨e1, e2⟩ := h' n (Nat.lt_succ_self n) z
      rw [e1, e2, Nat.add_comm n 1]
      rfl
theorem inv_zero {x y : Nat} (h : x ≤ y) (hs : 0 < y → sw true (x % y) (y % y) = false) : x = 0 ∨ x = y := by
  rcases Nat.lt_or_eq_of_le h with q | q
  · left
    have hs := hs (Nat.lt_of_le_of_lt (Nat.zero_le x) q)
    rw [Nat.mod_self, Nat.mod_eq_of_lt q] at hs
    rcases Nat.eq_zero_or_pos x with z | z
    · exact z
    · exact absurd (Nat.ble_eq_true_of_le z) (Bool.eq_false_iff.mp hs)
  · exact .inr q
theorem inv_none {a b c d e : Nat} (h : invW true [a, b, c, d, e] = 0) : (sw true a b = false ∧ sw true a c = false ∧ sw true b c = false ∧ sw true a d = false ∧ sw true b d = false) ∧ sw true c d = false ∧ sw true a e = false ∧ sw true b e = false ∧ sw true c e = false ∧ sw true d e = false := by
  unfold invW at h
  dsimp only at h
  have z : ∀ {q : Bool} {n : Nat}, n + q.toNat = 0 → n = 0 ∧ q = false := fun {q n} h => by
    cases q
    · exact ⟨h, rfl⟩
    · exact absurd h (Nat.succ_ne_zero _)
  obtain ⟨h, p10⟩ := z h
  obtain ⟨h, p9⟩ := z h
  obtain ⟨h, p8⟩ := z h
  obtain ⟨h, p7⟩ := z h
  obtain ⟨h, p6⟩ := z h
  obtain ⟨h, p5⟩ := z h
  obtain ⟨h, p4⟩ := z h
  obtain ⟨h, p3⟩ := z h
  obtain ⟨h, p2⟩ := z h
  exact ⟨⟨(z (n := 0) ((Nat.zero_add _).trans h)).2, p2, p3, p4, p5⟩, p6, p7, p8, p9, p10⟩
theorem chk_all {r : List Nat} (F : Five r) : Chk r (r.getD 4 0 + 1) := by
  obtain ⟨a, b, c, d, e, rfl⟩ := five_of F.len
  have h1 : a ≤ b := F.up 0 1 (by decide) (by decide)
  have h2 : b ≤ c := F.up 1 2 (by decide) (by decide)
  have h3 : c ≤ d := F.up 2 3 (by decide) (by decide)
  have h4 : d ≤ e := F.up 3 4 (by decide) (by decide)
  have h9 : e ≤ 9 := F.le 4
  show Chk [a, b, c, d, e] (e + 1)
  obtain ⟨n1, E1⟩ := sc1_eq a b c d e
  obtain ⟨n2, E2⟩ := sc2_eq a b c d e
  have inv : ∀ i, i < e + 1 → (spotsN [a, b, c, d, e] (e + 1) 5).count (1 + i) = invW true [a % (1 + i), b % (1 + i), c % (1 + i), d % (1 + i), e % (1 + i)] := fun i hi => (cnt_spots _ hi 5).trans (cnt_inv rfl)
  generalize hsp : spotsN [a, b, c, d, e] (e + 1) 5 = sp at inv
  have two : ∀ i, i < e + 1 → colT [a, b, c, d, e] (1 + i) = (1 + i) * (valR (1 + i) 0 (cs2 a b c d e) + 20) + (1 + i) * sp.count (1 + i) := fun i hi => by
    rw [colT_eq, val_all h1 h2 h3 h4 h9 (Nat.le_add_right 1 i) (by omega), inv i hi, ← Nat.mul_add, Nat.add_right_comm]
  have k1 : ∀ i, colOf (sc1 [a, b, c, d, e]) (i + 1) = colT [a, b, c, d, e] (1 + i) := fun i => by
    rw [E1, colT_eq, Nat.add_comm 1 i]
    exact (col_val _ _ _ (Nat.le_add_left 1 i)).trans (Nat.zero_add _)
  have k2 : ∀ i, i < e + 1 → colOf (sc2 [a, b, c, d, e]) (i + 1) = colT [a, b, c, d, e] (1 + i) - (1 + i) * sp.count (1 + i) := fun i hi => by
    rw [E2, two i hi, Nat.add_sub_cancel, Nat.add_comm 1 i]
    exact (col_val _ _ _ (Nat.le_add_left 1 i)).trans (Nat.zero_add _)
  have le : ∀ i, i < e + 1 → (1 + i) * sp.count (1 + i) ≤ colT [a, b, c, d, e] (1 + i) := fun i hi => by rw [two i hi]; exact Nat.le_add_left ..
  have c0 : ∀ i, i < e + 1 → (sp.contains (1 + i) = false ↔ (1 + i) * sp.count (1 + i) = 0) := fun i _ => by
    rw [← Bool.not_eq_true, List.contains_iff_mem, ← List.count_eq_zero]
    exact ⟨fun q => by rw [q]; rfl, fun q => (Nat.mul_eq_zero.mp q).resolve_left (by omega)⟩
  have hN : topN [a, b, c, d, e] = e + 1 := by
    have q0 : ([] : List Nat).length ≤ e + 1 := Nat.zero_le _
    have bE := Nat.le_trans h2 (Nat.le_trans h3 h4)
    have cE := Nat.le_trans h3 h4
    have aE := Nat.le_trans h1 bE
    have eE := Nat.le_refl e
    have q1 := (len_b1 (len_b1 (len_b1 (len_b1 (len_b1 (len_b1 (len_b1 (len_b1 (len_b1 q0 bE).1 cE).1 cE).1 h4).1 h4).1 h4).1 eE).1 eE).1 eE).1
    have q2 : (cs2 a b c d e).length ≤ e + 1 := len_b2 (len_b2 (len_b2 (len_b2 (len_b2 (len_b2 (len_b2 (len_b2 (len_b2 (len_b2 q0 aE bE) aE cE) bE cE) aE h4) bE h4) cE h4) aE eE) bE eE) cE eE) h4 eE
    have q3 : (cs1 b c d e).length = e + 1 := Nat.le_antisymm (len_b1 q1 eE).1 (len_b1 q1 eE).2
    unfold topN
    rw [E1, E2]
    show max (max ((cs1 b c d e).length - 1) 0) (max ((cs2 a b c d e).length - 1) 0) + 1 = e + 1
    rw [q3, Nat.max_eq_left (Nat.zero_le _), Nat.max_eq_left (Nat.zero_le _), Nat.max_eq_left (Nat.sub_le_sub_right q2 1)]
    rfl
  refine ⟨?_, by rw [hsp]; exact le, ?_, ?_, ?_, ?_⟩
  · rw [page_run]
    refine congrArg List.flatten (List.map_congr_left fun x hx => run_sorts ?_)
    exact (resL_mem hx).1.trans rfl
  · rw [hN, hsp, wit_told (fun _ => true) (e + 1) (fun i hi => ?_) (fun i hi _ => ⟨k1 i, k2 i hi⟩)]
    · exact List.filter_eq_self.mpr fun _ _ => rfl
    · rw [k1, k2 i hi]
      exact Nat.ble_eq_true_of_le (Nat.sub_le ..)
  · rw [hsp, E1, E2]
    show (cs1 b c d e == cs2 a b c d e && true) = _
    rw [Bool.and_true]
    cases z : sp.isEmpty
    · refine Bool.eq_false_iff.mpr fun w => ?_
      have w := eq_of_beq w
      obtain ⟨x, hx⟩ := List.exists_mem_of_ne_nil sp fun q => by rw [q] at z; cases z
      obtain ⟨i, hi, rfl⟩ := spots_mem (d := 5) (by rw [hsp]; exact hx)
      have h := two i hi
      rw [colT_eq, w] at h
      have h0 : (1 + i) * sp.count (1 + i) = 0 := by omega
      exact absurd (List.count_pos_iff.mpr hx) (by rw [(Nat.mul_eq_zero.mp h0).resolve_left (by omega)]; decide)
    · have ez : sp = [] := List.isEmpty_iff.mp z
      have no : ∀ y, y ≤ e → 0 < y → invW true [a % y, b % y, c % y, d % y, e % y] = 0 := fun y hy h0 => by
        obtain ⟨i, rfl⟩ : ∃ i, y = 1 + i := ⟨y - 1, by omega⟩
        rw [← inv i (by omega), ez]; rfl
      have bE := Nat.le_trans h2 (Nat.le_trans h3 h4)
      have cE := Nat.le_trans h3 h4
      have fB := fun h0 => inv_none (no b bE h0)
      have fC := fun h0 => inv_none (no c cE h0)
      have fD := fun h0 => inv_none (no d h4 h0)
      have fE := fun h0 => inv_none (no e (Nat.le_refl e) h0)
      have : cs1 b c d e = cs2 a b c d e :=
        b_same (inv_zero h4 fun h0 => (fE h0).2.2.2.2.2) <| b_same (inv_zero cE fun h0 => (fE h0).2.2.2.2.1) <| b_same (inv_zero bE fun h0 => (fE h0).2.2.2.1) <| b_same (inv_zero (Nat.le_trans h1 bE) fun h0 => (fE h0).2.2.1) <|
        b_same (inv_zero h3 fun h0 => (fD h0).2.1) <| b_same (inv_zero (Nat.le_trans h2 h3) fun h0 => (fD h0).1.2.2.2.2) <| b_same (inv_zero (Nat.le_trans h1 (Nat.le_trans h2 h3)) fun h0 => (fD h0).1.2.2.2.1) <|
        b_same (inv_zero h2 fun h0 => (fC h0).1.2.2.1) <| b_same (inv_zero (Nat.le_trans h1 h2) fun h0 => (fC h0).1.2.1) <| b_same (inv_zero h1 fun h0 => (fB h0).1.1) rfl
      rw [this, beq_self_eq_true]
  · rw [hN, hsp, wit_told (r := [a, b, c, d, e]) (sp := sp) (fun s => !sp.contains s) (e + 1) (fun i hi => ?_) (fun i hi q => ?_)]
    · rw [k1, k2 i hi]
      show Nat.ble _ _ = _
      have := le i hi
      cases z : sp.contains (1 + i)
      · rw [(c0 i hi).mp z]; exact Nat.ble_eq_true_of_le (Nat.le_refl _)
      · refine Bool.eq_false_iff.mpr fun w => ?_
        have w := Nat.le_of_ble_eq_true w
        have : (1 + i) * sp.count (1 + i) ≠ 0 := fun y => by rw [(c0 i hi).mpr y] at z; cases z
        omega
    · have z : sp.contains (1 + i) = false := by simpa using q
      rw [k1, k2 i hi, (c0 i hi).mp z]
      exact ⟨rfl, rfl⟩
  · rw [hN, hsp, wit_told (r := [a, b, c, d, e]) (sp := sp) (fun s => sp.contains s) (e + 1) (fun i hi => ?_) (fun i hi _ => ⟨k1 i, k2 i hi⟩)]
    rw [k1, k2 i hi]
    show (!Nat.beq _ _) = _
    have := le i hi
    cases z : sp.contains (1 + i)
    · rw [(c0 i hi).mp z, Nat.sub_zero, Nat.beq_refl]; rfl
    · have y : (1 + i) * sp.count (1 + i) ≠ 0 := fun y => by rw [(c0 i hi).mpr y] at z; cases z
      rw [Bool.not_eq_true']
      refine Bool.eq_false_iff.mpr fun w => ?_
      have w := Nat.eq_of_beq_eq_true w
      omega
theorem law_true (ns : List Int) : ∃ σ', F_law [.list (ns.map .int)] [.ref 0] = some (.bool true, σ') := law_when ns (chk_all (ris_five ns))
end Mine.L2
end

section

end

section
open PySem PySem.W PyProof.Rows Mine
open PySem.W.X PySem.W.ZRun
set_option Elab.async false
namespace Mine.Hd
/-- the program with no statement: what z_head closes by itself -/
def p0 : Program := { Challenge.pw_pg0147_02 with main := { Challenge.pw_pg0147_02.main with body := [] } }
def Left1 (_ : Nat) : Prop := LeftO p0 p0 [] (fun _ => true) (fun _ => ()) (fun _ => ()) 700
/-- the text's run from the boot's end, by the library's quick forms: a row of the world's, both ways -/
noncomputable def runB (p q : Program) (loose : List Str) (Xt : Shared → Bool) {α : Type} (Yf : Shared → α) (N : Nat) (w w' : World) (os : OsState) :=
  (Fast.tw14082659384304107361 Fast.tw14364793385576792824 p w' (boot_heap w.params).objs.size ((boot_heap w.params).nsMap mainGlobals "__annotations__") N ⟨boot_heap w.params, Array.mk [], boot_drawn, boot_toks, os⟩ (topStub p)).map fun s =>
    (staticsOk (importedModules p.main.body) (boot_heap w.params) s.heap && namesBound p s.heap && gensDone s && laidKept (boot_heap w.params) s.heap, Fast.tw4187177175401517315 q loose (importedModules p.main.body) Xt true s, Yf s)
theorem left_boot {p q : Program} {loose : List Str} {Xt : Shared → Bool} {α : Type} {Yf : Shared → α} {Ya : World → α} {N : Nat} (row : String) (e : opening p = plainProg p.main.scope.names) (hN : Nat.ble 600 N = true) (f : ∀ s, fenceModules? p s = some s)
    (hs : ∀ P, ((boot_heap P).isNs mainGlobals && (Array.mk [] : Array GenState).size == 0) = true)
    (hf : ∀ w os, runB p q loose Xt Yf N w (w.withFollow row false) os = some (true, openGood q loose, Ya (w.withFollow row false)))
    (ht : ∀ w os, runB p q loose Xt Yf N w (w.withFollow row true) os = some (true, openGood q loose, Ya (w.withFollow row true))) : LeftO p q loose Xt Yf Ya N :=
  LeftO.of_split row fun w => by
    obtain ⟨⟨h, gs, d, k, os⟩, a, hv⟩ := Option.map_eq_some_iff.mp (boot_open e hN f w)
    obtain ⟨rfl, rfl, rfl, rfl⟩ : h = boot_heap w.params ∧ gs = Array.mk [] ∧ d = boot_drawn ∧ k = boot_toks := ⟨congrArg (·.1) hv, congrArg (·.2.1) hv, congrArg (·.2.2.1) hv, congrArg (·.2.2.2) hv⟩
    have key : ∀ w', runB p q loose Xt Yf N w w' os = some (true, openGood q loose, Ya w') → (topFrom treeTable p w' N ⟨boot_heap w.params, Array.mk [], boot_drawn, boot_toks, os⟩).map (fun s => (openSeen q loose (importedModules p.main.body) Xt true s, Yf s)) = some (openGood q loose, Ya w') := fun w' g => by
      unfold runB at g
      rw [← Fast.te14082659384304107361, ← Fast.te14364793385576792824, ← Fast.te4187177175401517315] at g
      obtain ⟨s, r, g⟩ := Option.map_eq_some_iff.mp g
      have g1 := congrArg Prod.fst g
      have g2 := congrArg Prod.snd g
      dsimp only at g1 g2
      unfold topFrom
      rw [hs]
      dsimp only
      rw [r]
      show Option.map _ (match staticsOk (importedModules p.main.body) (boot_heap w.params) s.heap && namesBound p s.heap && gensDone s && laidKept (boot_heap w.params) s.heap with | true => some s | false => none) = _
      rw [g1]
      exact congrArg some g2
    rw [a]
    show some (_, _) = _
    rw [key _ (hf w os), key _ (ht w os)]
theorem PySem.W.holds_openX {r : OpenRow} {q : Program} {loose : List Str} {Xt : Shared → Bool} {XP : (Str → Option Value) → Heap → Prop} {α : Type} {Yf : Shared → α} {Ya : World → α} {d : DefRec} {kwd : List (Str × Expr)} {N : Nat}
    (_left : Left1 N)
    (hX : ∀ s, Xt s = true → XP (s.heap.nsMap mainGlobals) s.heap) (hXk : ∀ mg h h', XP mg h → (∀ b o, h.get? b = some o → h'.get? b = some o) → XP mg h')
    (hdef : defOf q r.name = some (d, kwd)) (hp : r.prog.theDef r.name = some (d.params, d.body, d.scope)) (hk : kwWritten? d.params.kwonlyargs d.params.kw_defaults = some kwd) (hRf : ∀ s, Xt s = true → RecFacts r.records s.heap) (hwr : (!r.writes || r.records.isEmpty) = true)
    (k1 : r.wellSaid = true) (ok : (chainsOk q && opensWell r.prog && (frees r.toRowW && r.within.isEmpty)) = true) (hb : r.prog.bare) (hw : r.toRowW.promised)
    (walk : LeftO r.prog q loose Xt Yf Ya N ∧ WalkI q loose XP Yf Ya r.toRowW d kwd) : r.Holds := holds_I walk.1 hX hXk hdef hp hk hRf hwr k1 ok hb hw walk.2
theorem said : OpenLaw.wellSaid Challenge.rw_pg0147_02 = true := (congrFun Fast.te9446332074065402090 _).trans (by kernel_rfl)
set_option maxRecDepth 100000 in
set_option maxHeartbeats 0 in
theorem T_pg : Challenge.rw_pg0147_02.Holds := by
  w_on; refine holds_law said fun said => ?_; z_head; (case hw => w_witness2)
  refine ⟨left_boot "special-get-raises" (by kernel_rfl) (by decide) (fun s => by kernel_rfl) (fun P => by kernel_rfl) (fun w os => by kernel_rfl) (fun w os => by kernel_rfl), ?_⟩
  k_fill
  intro w s₀ s₁ mg mb G y fa o pm cd doc dV kV ho hd hcd hD hmg hg args vals as L hpre hlay hrd hwl hlo
  z_open y L KX ZH ZN ZT
  refine Ground.open G ?_
  intro T B D TE TW
  clear hd hcd hD ho
  wrow_args hpre hlay hrd hwl hlo
  obtain ⟨hat, hsz⟩ := script_at L
  have htk := script_toks L ZT
  rw [ZN] at hat hsz
  subst hat
  rename_i ns _ _ _ _ _ _ _ vs _ ra hI _ hlen _ hL w1 r0
  have hl : ns.length ≤ 63 := by omega
  have ho := script_obj L hL
  have hat : ∀ x ∈ attrN, findIn (T_pg.heap_100 w.params) (.ref 83) x = some none := by
    intro x hx
    simp only [attrN, List.mem_cons, List.not_mem_nil, or_false] at hx
    rcases hx with rfl | rfl | rfl | rfl | rfl <;> kernel_rfl
  have X : Cls (T_pg.heap_100 w.params) 83 := ⟨by kernel_rfl, by kernel_rfl, by kernel_rfl, by kernel_rfl, by kernel_rfl, by kernel_rfl, hat, by decide +kernel⟩
  have V : Ev s₁.heap 83 mg mb (T_pg.heap_100 w.params) := ⟨⟨T.g, T.b, T.nolimit⟩, X, KX, fun j x bv e => by
    have key : ∀ (x : Str) (bv : Value), (x, bv) ∈ bltL → mg x = none ∧ mb x = some bv := by
      intro x bv h
      simp only [bltL, List.mem_cons, Prod.mk.injEq, List.not_mem_nil, or_false] at h
      rcases h with ⟨rfl, rfl⟩ | ⟨rfl, rfl⟩ | ⟨rfl, rfl⟩ | ⟨rfl, rfl⟩ | ⟨rfl, rfl⟩ | ⟨rfl, rfl⟩ | ⟨rfl, rfl⟩ | ⟨rfl, rfl⟩ | ⟨rfl, rfl⟩ | ⟨rfl, rfl⟩ | ⟨rfl, rfl⟩ | ⟨rfl, rfl⟩ <;>
        exact ⟨mg_none KX T.g (by kernel_rfl), (T.builtins _ (by decide)).trans (by kernel_rfl)⟩
    exact key x bv (List.mem_of_getElem? e)⟩
  have gLaw := mg_of KX T.g (n := Str.ofString "law") (v := .ref 111) (by rfl)
  have hfa : fa = 111 := by
    have h1 := hmg.symm.trans gLaw
    injection h1 with h1
    injection h1
  subst hfa
  have dI : DF s₁.heap 38 (methBody L2.PW 2 1) (methScope L2.PW 2 1) ["self", "ws"] := DF.of KX (by rfl) (by rfl) (by rfl) (by rfl) (by kernel_rfl) (by rfl) (by rfl) (by rfl) (by rfl) (by rfl) (by rfl) (bind2 fun _ _ => rfl)
  have dLo : DF s₁.heap 45 (methBody L2.PW 2 2) (methScope L2.PW 2 2) ["self"] := DF.of KX (by rfl) (by rfl) (by rfl) (by rfl) (by kernel_rfl) (by rfl) (by rfl) (by rfl) (by rfl) (by rfl) (by rfl) (bind1 fun _ => rfl)
  have dIn : DF s₁.heap 52 (methBody L2.PW 2 3) (methScope L2.PW 2 3) ["self", "tabsize"] := DF.of KX (by rfl) (by rfl) (by rfl) (by rfl) (by kernel_rfl) (by rfl) (by rfl) (by rfl) (by rfl) (by rfl) (by rfl) (bind2 fun _ _ => rfl)
  have dEq : DF s₁.heap 59 (methBody L2.PW 2 4) (methScope L2.PW 2 4) ["self", "other"] := DF.of KX (by rfl) (by rfl) (by rfl) (by rfl) (by kernel_rfl) (by rfl) (by rfl) (by rfl) (by rfl) (by rfl) (by rfl) (bind2 fun _ _ => rfl)
  have dWi : DF s₁.heap 66 (methBody L2.PW 2 5) (methScope L2.PW 2 5) ["self", "other"] := DF.of KX (by rfl) (by rfl) (by rfl) (by rfl) (by kernel_rfl) (by rfl) (by rfl) (by rfl) (by rfl) (by rfl) (by rfl) (bind2 fun _ _ => rfl)
  have dLe : DF s₁.heap 80 (methBody L2.PW 2 7) (methScope L2.PW 2 7) ["self", "other"] := DF.of KX (by rfl) (by rfl) (by rfl) (by rfl) (by kernel_rfl) (by rfl) (by rfl) (by rfl) (by rfl) (by rfl) (by rfl) (bind2 fun _ _ => rfl)
  have dBs : DF s₁.heap 94 (bodyAt L2.PW 4) (scopeAt L2.PW 4) ["data", "width"] := DF.of KX (by rfl) (by rfl) (by rfl) (by rfl) (by kernel_rfl) (by rfl) (by rfl) (by rfl) (by rfl) (by rfl) (by rfl) (bind2 fun _ _ => rfl)
  have dLd : DF s₁.heap 101 (bodyAt L2.PW 6) (scopeAt L2.PW 6) ["rising"] := DF.of KX (by rfl) (by rfl) (by rfl) (by rfl) (by kernel_rfl) (by rfl) (by rfl) (by rfl) (by rfl) (by rfl) (by rfl) (bind1 fun _ => rfl)
  have dRo : DF s₁.heap 106 (bodyAt L2.PW 7) (scopeAt L2.PW 7) ["page", "sense"] := DF.of KX (by rfl) (by rfl) (by rfl) (by rfl) (by kernel_rfl) (by rfl) (by rfl) (by rfl) (by rfl) (by rfl) (by rfl) (bind2 fun _ _ => rfl)
  have dLaw : DF s₁.heap 111 (bodyAt L2.PW 8) (scopeAt L2.PW 8) ["script"] := DF.of KX (by rfl) (by rfl) (by rfl) (by rfl) (by kernel_rfl) (by rfl) (by rfl) (by rfl) (by rfl) (by rfl) (by rfl) (bind1 fun _ => rfl)
  have gBs := mg_of KX T.g (n := Str.ofString "_byteswap") (v := .ref 94) (by rfl)
  have gLd := mg_of KX T.g (n := Str.ofString "_law_leads") (v := .ref 101) (by rfl)
  have gRo := mg_of KX T.g (n := Str.ofString "_law_round") (v := .ref 106) (by rfl)
  have gC := mg_of KX T.g (n := Str.ofString "Whitespace") (v := .ref 83) (by rfl)
  have hF := L2.chain (prog := Challenge.rw_pg0147_02.row.prog) (w := w) (mc := .type "type") V gC (by kernel_rfl) (by kernel_rfl) (tS := 209) (tT := 210) (by kernel_rfl) (by kernel_rfl)
    dI (by kernel_rfl) (by kernel_rfl)
    dLo (by kernel_rfl) (by kernel_rfl)
    dIn (by kernel_rfl) (by kernel_rfl)
    dEq (by kernel_rfl) (by kernel_rfl)
    dWi (by kernel_rfl) (by kernel_rfl)
    dLe (by kernel_rfl) (by kernel_rfl)
    dBs gBs
    dLd gLd
    dRo gRo
    dLaw
  exact law_end hF (by decide) ho hI hl hg (fun _ => by rfl) (by first | kernel_rfl | wrow_post) (L2.law_true ns)
end Mine.Hd
end

theorem PySem.Challenge.cw_pg0147_02_holds : PySem.Challenge.rw_pg0147_02.Holds :=
  Mine.Hd.T_pg
